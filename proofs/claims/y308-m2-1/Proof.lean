import JvmDerived
import JvmDerived.Pilot.@@N@@Statement
import JvmDerived.Pilot.@@N@@Code
set_option linter.unusedVariables false
set_option linter.unusedSimpArgs false
namespace Jvm.Pilot.@@N@@
open Jvm Jvm.ClassFile Sem Op Lib Jvm.Free Jvm.Stand Jvm.LawKit Jvm.RoadKit Bundle Jvm.Pilot.@@N@@.Jvm.D
theorem own_go {α β : Sort _} {A B : α → Prop} {P : α → β → Prop} (k : ∀ t, A t → B t) (h : ∃ t o, A t ∧ P t o) : ∃ t o, B t ∧ P t o := by
  obtain ⟨t, o, h1, h2⟩ := h
  exact ⟨t, o, k t h1, h2⟩
theorem own_abs {α β : Sort _} {A : α → Prop} {P : α → β → Prop} (h : ∀ P' : α → β → Prop, (∀ t o, P t o → P' t o) → ∃ t o, A t ∧ P' t o) : ∃ t o, A t ∧ P t o := h P fun _ _ q => q
theorem own_cat1 {v : Value} (h : v.isRef = true) : v.category = 1 := by rcases ref_cases h with rfl | ⟨_, rfl⟩ <;> rfl
theorem own_slot1 {v : Value} (h : v.isRef = true) : Slot.val v = .unset ∨ ∃ w, Slot.val v = .val w ∧ w.category = 1 := Or.inr ⟨v, rfl, own_cat1 h⟩
theorem own_nar {C : String} {w : Value} (h : w.isRef = true) : narrow (.object C) w = w := by rcases ref_cases h with rfl | ⟨_, rfl⟩ <;> rfl
open Jvm.FP.Core (val64 b64 inUnits signed) in
def own_S (x : UInt64) (u : Int) : Prop := ∃ s c q, val64 x = .fin s c q ∧ signed s (inUnits c q b64.qmin) = u
theorem own_Sqmin : Jvm.FP.Core.b64.qmin = -1074 := by decide
theorem own_Sqmax : Jvm.FP.Core.b64.qmax = 971 := by decide
theorem own_SinU (c : Nat) (q : Int) : Jvm.FP.Core.inUnits c q Jvm.FP.Core.b64.qmin = c * 2 ^ (q + 1074).toNat := by
  unfold Jvm.FP.Core.inUnits; rw [own_Sqmin]; congr 2
theorem own_Snan {x : UInt64} {u : Int} (h : own_S x u) : Jvm.FP.Core.val64 x ≠ .nan := by
  obtain ⟨s, c, q, e, -⟩ := h; rw [e]; exact Jvm.FP.Core.Datum.noConfusion
theorem own_Snn {x : UInt64} {u : Int} (h : own_S x u) : Jvm.Free.Fl.NoNaN64 x := Jvm.Free.Fl.val64_no.mpr (own_Snan h)
theorem own_Sfit {x : UInt64} {s : Bool} {c : Nat} {q : Int} (e : Jvm.FP.Core.val64 x = .fin s c q) : -1074 ≤ q := by
  have h := Jvm.FP.Core.val64_fits x
  rw [e] at h; have := h.2.1; rw [own_Sqmin] at this; exact this
theorem own_sgm (s : Bool) (c d : Nat) : Jvm.FP.Core.signed s (c * d) = Jvm.FP.Core.signed s c * d := by
  cases s
  · show ((c * d : Nat) : Int) = _; rw [Int.natCast_mul]; rfl
  · show -((c * d : Nat) : Int) = -(c : Int) * d; rw [Int.natCast_mul, Int.neg_mul]
theorem own_sgn (s t : Bool) (c d : Nat) : Jvm.FP.Core.signed (s != t) (c * d) = Jvm.FP.Core.signed s c * Jvm.FP.Core.signed t d := by
  cases s <;> cases t
  · show ((c * d : Nat) : Int) = c * d; exact Int.natCast_mul _ _
  · show -((c * d : Nat) : Int) = (c : Int) * -(d : Int); rw [Int.natCast_mul, Int.mul_neg]
  · show -((c * d : Nat) : Int) = -(c : Int) * (d : Int); rw [Int.natCast_mul, Int.neg_mul]
  · show ((c * d : Nat) : Int) = -(c : Int) * -(d : Int); rw [Int.natCast_mul, Int.neg_mul_neg]
theorem own_sga (s : Bool) (c : Nat) : (Jvm.FP.Core.signed s c).natAbs = c := by
  cases s
  · show ((c : Int)).natAbs = c; omega
  · show (-(c : Int)).natAbs = c; omega
theorem own_pos2 (k : Nat) : (0 : Int) < 2 ^ k := Int.pow_pos (by decide)
theorem own_nabs (n : Int) (k : Nat) : (n * 2 ^ k).natAbs = n.natAbs * 2 ^ k := by
  rw [Int.natAbs_mul, Int.natAbs_pow]; rfl
theorem own_sgs {s : Bool} {M : Nat} {n : Int} {k : Nat} (h : Jvm.FP.Core.signed s M = n * 2 ^ k) : Jvm.FP.Core.signed s n.natAbs = n := by
  have p := own_pos2 k
  cases s
  · have h' : (M : Int) = n * 2 ^ k := h
    have : 0 ≤ n := by
      by_cases q : n < 0
      · have := Int.mul_neg_of_neg_of_pos q p; omega
      · omega
    show ((n.natAbs : Nat) : Int) = n; omega
  · have h' : -(M : Int) = n * 2 ^ k := h
    have : n ≤ 0 := by
      by_cases q : 0 < n
      · have := Int.mul_pos q p; omega
      · omega
    show -((n.natAbs : Nat) : Int) = n; omega
theorem own_rS {x : UInt64} {s : Bool} {M k : Nat} {e n : Int} (hx : Jvm.FP.Core.val64 x = Jvm.FP.Core.round Jvm.FP.Core.b64 (.fin s M e)) (he : -2148 ≤ e) (hN : n.natAbs < 9007199254740992) (hk : k ≤ 1074) (h : Jvm.FP.Core.signed s (M * 2 ^ (e + 2148).toNat) = n * 2 ^ (2148 - k)) : own_S x (n * 2 ^ (1074 - k)) := by
  obtain ⟨a, ha⟩ : ∃ a, a = (e + 2148).toNat := ⟨_, rfl⟩
  rw [← ha] at h
  have key : M * 2 ^ a = n.natAbs * 2 ^ (2148 - k) := by
    have := congrArg Int.natAbs h; rw [own_sga, own_nabs] at this; exact this
  have cg : Jvm.FP.Core.roundRatio Jvm.FP.Core.b64 s M 1 e = Jvm.FP.Core.roundRatio Jvm.FP.Core.b64 s n.natAbs 1 (-(k : Int)) := by
    refine Jvm.FP.Core.roundRatio_congr (by decide) (by decide) ?_
    rw [Nat.mul_one, Nat.mul_one]
    by_cases g : 2148 - k ≤ a
    · rw [show (e - -(k : Int)).toNat = a - (2148 - k) by omega, show (-(k : Int) - e).toNat = 0 by omega, Nat.pow_zero, Nat.mul_one]
      refine Nat.eq_of_mul_eq_mul_right (Nat.two_pow_pos (2148 - k)) ?_
      rw [Nat.mul_assoc, ← Nat.pow_add, show a - (2148 - k) + (2148 - k) = a by omega]; exact key
    · rw [show (e - -(k : Int)).toNat = 0 by omega, show (-(k : Int) - e).toNat = 2148 - k - a by omega, Nat.pow_zero, Nat.mul_one]
      refine Nat.eq_of_mul_eq_mul_right (Nat.two_pow_pos a) ?_
      rw [Nat.mul_assoc n.natAbs, ← Nat.pow_add, show 2148 - k - a + a = 2148 - k by omega]; exact key
  obtain ⟨c, q, h1, h2⟩ := Jvm.FP.Core.round_exact Jvm.FP.Core.good_b64 s (c := n.natAbs) (q := -(k : Int)) (show n.natAbs < 2 ^ 53 from hN) (by rw [own_Sqmin]; omega) (by rw [own_Sqmax]; omega)
  refine ⟨s, c, q, hx.trans (cg.trans h1), ?_⟩
  rw [h2, own_SinU, show (-(k : Int) + 1074).toNat = 1074 - k by omega, own_sgm, own_sgs h, Int.natCast_pow]; rfl
theorem own_mulS {x y : UInt64} {u v n : Int} {k : Nat} (hx : own_S x u) (hy : own_S y v) (hN : n.natAbs < 9007199254740992) (hk : k ≤ 1074) (h : u * v = n * 2 ^ (2148 - k)) : own_S (Jvm.FP.dmul x y) (n * 2 ^ (1074 - k)) := by
  obtain ⟨s, c, q, e1, e2⟩ := hx
  obtain ⟨t, d, r, f1, f2⟩ := hy
  have hq := own_Sfit e1
  have hr := own_Sfit f1
  refine own_rS (s := s != t) (M := c * d) (e := q + r) ((Jvm.FP.Core.val64_dmul x y).trans (by rw [e1, f1]; rfl)) (by omega) hN hk ?_
  rw [own_SinU] at e2 f2
  rw [← h, ← e2, ← f2, ← own_sgn, show (q + r + 2148).toNat = (q + 1074).toNat + (r + 1074).toNat by omega, Nat.pow_add]
  congr 1; ac_rfl
theorem own_addS {x y : UInt64} {u v n : Int} {k : Nat} (hx : own_S x u) (hy : own_S y v) (hN : n.natAbs < 9007199254740992) (hk : k ≤ 1074) (h : u + v = n * 2 ^ (1074 - k)) : own_S (Jvm.FP.dadd x y) (n * 2 ^ (1074 - k)) := by
  obtain ⟨s, c, q, e1, e2⟩ := hx
  obtain ⟨t, d, r, f1, f2⟩ := hy
  have hq := own_Sfit e1
  have hr := own_Sfit f1
  obtain ⟨w, hw⟩ : ∃ w, w = Jvm.FP.Core.sumUnits s c q t d r (min q r) := ⟨_, rfl⟩
  refine own_rS (s := Jvm.FP.Core.sumSign s t w) (M := w.natAbs) (e := min q r) ((Jvm.FP.Core.val64_dadd x y).trans (by rw [e1, f1, hw]; rfl)) (by omega) hN hk ?_
  rw [own_SinU] at e2 f2
  have sw : Jvm.FP.Core.signed (Jvm.FP.Core.sumSign s t w) w.natAbs = w := by
    unfold Jvm.FP.Core.sumSign Jvm.FP.Core.signed
    by_cases z : w = 0
    · subst z; simp
    · rw [if_neg z]; by_cases z2 : w < 0
      · simp [z2]; omega
      · simp [z2]; omega
  rw [own_sgm, sw]
  have hu : w * ((2 ^ (min q r + 1074).toNat : Nat) : Int) = u + v := by
    rw [hw, ← e2, ← f2]; unfold Jvm.FP.Core.sumUnits
    rw [Int.add_mul, ← own_sgm, ← own_sgm]; unfold Jvm.FP.Core.inUnits
    rw [Nat.mul_assoc, Nat.mul_assoc, ← Nat.pow_add, ← Nat.pow_add, show (q - min q r).toNat + (min q r + 1074).toNat = (q + 1074).toNat by omega, show (r - min q r).toNat + (min q r + 1074).toNat = (r + 1074).toNat by omega]
  rw [show (min q r + 2148).toNat = (min q r + 1074).toNat + 1074 by omega, Nat.pow_add, Int.natCast_mul, ← Int.mul_assoc, hu, h, Int.mul_assoc, Int.natCast_pow]
  have : (2 ^ (2148 - k) : Int) = 2 ^ (1074 - k) * 2 ^ 1074 := by rw [← Int.pow_add, show 1074 - k + 1074 = 2148 - k by omega]
  rw [this]; rfl
theorem own_l2dS {x : Int64} {n : Int} (h : x.toInt = n) (hN : n.natAbs < 9007199254740992) : own_S (Jvm.FP.l2d x) (n * 2 ^ 1074) := by
  have q := Jvm.FP.Core.val64_l2d x
  rw [h] at q
  refine own_rS (k := 0) (s := decide (n < 0)) (M := n.natAbs) (e := 0) (q.trans ?_) (by decide) hN (by decide) ?_
  · rfl
  · rw [own_sgm]
    have : Jvm.FP.Core.signed (decide (n < 0)) n.natAbs = n := by
      unfold Jvm.FP.Core.signed; by_cases z : n < 0
      · simp [z]; omega
      · simp [z]; omega
    rw [this, Int.natCast_pow]; rfl
theorem own_zvS {x : UInt64} {u : Int} (h : own_S x u) : Jvm.FP.Core.zval Jvm.FP.Core.b64 (Jvm.FP.Core.val64 x) = u := by
  obtain ⟨s, c, q, e1, e2⟩ := h
  rw [e1, ← e2]; rfl
theorem own_cmpS {x y : UInt64} {u v : Int} (hx : own_S x u) (hy : own_S y v) (o : CmpOp) : cmpValue (Jvm.FP.dcmp x y) o = if u < v then -1 else if u = v then 0 else 1 := by
  rw [show Jvm.FP.dcmp x y = _ from Jvm.FP.Core.dcmp_zval (own_Snan hx) (own_Snan hy), own_zvS hx, own_zvS hy, Jvm.FP.Core.compare_ite]
  by_cases h1 : u < v
  · rw [if_pos h1, if_pos h1]; rfl
  · by_cases h2 : u = v
    · rw [if_neg h1, if_pos h2, if_neg h1, if_pos h2]; rfl
    · rw [if_neg h1, if_neg h2, if_neg h1, if_neg h2]; rfl
abbrev oW (p : Program) (e : Env) (below : List Frame) (T : State) (g : JFrame) : State → Prop := Steps p.tables e below (T.setTop g)
abbrev oi (n : Int32) : Slot := .val (.int n)
abbrev oj (n : Int64) : Slot := .val (.long n)
abbrev od (n : UInt64) : Slot := .val (.double n)
abbrev oR (n : Addr) : Slot := .val (.ref n)
theorem own_ldD {p : Program} {l : Launch} {e : Env} {R : Room} {s : State} {m : MethodId} {args : Array Value} {below : List Frame} {meth : Method} {c : Code} {T : State} {locs : List Loc} {cells slots : Nat} {Z : State} {h : Heap} {a : Addr} {k : ClassId} {z : Int32} {vs : List Value} {dv : Value} (X : Stand p l e R s m args below meth c T locs cells slots) (hx : p.tables.exec = Jvm.exec) (hZ : Z.Warmed39 s.vm) (eT : T.heap = h) (F : Arv Z h a k .double z vs dv) {j : Int32} {v : Value} (hb : ¬ j < 0 ∧ j < z) (hv : vs.getD j.toNatClampNeg dv = v) {g : JFrame} (hg : g.method = m) {rest : List Value} (hs : g.stack = .int j :: .ref a :: rest) (hd : decode c.code g.pc = .ok (.daload, 1)) (target : State)
    (hr : Steps p.tables e below (T.setTop { g with pc := g.pc + 1, stack := v :: rest }) target) : Steps p.tables e below (T.setTop g) target := by
  obtain ⟨cl, A, -, S, -, H, -⟩ := F
  have hi := inb_of S hb
  exact X.daload hx (by rw [eT]; exact A.1) (State.isArrayOf_alike hZ.alike A.2.1) A.2.2 hi (H.at hi hv) hg hs hd target hr
theorem own_ldI {p : Program} {l : Launch} {e : Env} {R : Room} {s : State} {m : MethodId} {args : Array Value} {below : List Frame} {meth : Method} {c : Code} {T : State} {locs : List Loc} {cells slots : Nat} {Z : State} {h : Heap} {a : Addr} {k : ClassId} {z : Int32} {vs : List Value} {dv : Value} (X : Stand p l e R s m args below meth c T locs cells slots) (hx : p.tables.exec = Jvm.exec) (hZ : Z.Warmed39 s.vm) (eT : T.heap = h) (F : Arv Z h a k .int z vs dv) {j : Int32} {v : Value} (hb : ¬ j < 0 ∧ j < z) (hv : vs.getD j.toNatClampNeg dv = v) {g : JFrame} (hg : g.method = m) {rest : List Value} (hs : g.stack = .int j :: .ref a :: rest) (hd : decode c.code g.pc = .ok (.iaload, 1)) (target : State)
    (hr : Steps p.tables e below (T.setTop { g with pc := g.pc + 1, stack := v :: rest }) target) : Steps p.tables e below (T.setTop g) target := by
  obtain ⟨cl, A, -, S, -, H, -⟩ := F
  have hi := inb_of S hb
  exact X.iaload hx (by rw [eT]; exact A.1) (State.isArrayOf_alike hZ.alike A.2.1) A.2.2 hi (H.at hi hv) hg hs hd target hr
theorem own_ldA {p : Program} {l : Launch} {e : Env} {R : Room} {s : State} {m : MethodId} {args : Array Value} {below : List Frame} {meth : Method} {c : Code} {T : State} {locs : List Loc} {cells slots : Nat} {Z : State} {h : Heap} {a : Addr} {k : ClassId} {z : Int32} {vs : List Value} {dv : Value} {ty : FieldType} (X : Stand p l e R s m args below meth c T locs cells slots) (hx : p.tables.exec = Jvm.exec) (hZ : Z.Warmed39 s.vm) (eT : T.heap = h) (F : Arv Z h a k (.array ty) z vs dv) {j : Int32} {v : Value} (hb : ¬ j < 0 ∧ j < z) (hv : vs.getD j.toNatClampNeg dv = v) {g : JFrame} (hg : g.method = m) {rest : List Value} (hs : g.stack = .int j :: .ref a :: rest) (hd : decode c.code g.pc = .ok (.aaload, 1)) (target : State)
    (hr : Steps p.tables e below (T.setTop { g with pc := g.pc + 1, stack := v :: rest }) target) : Steps p.tables e below (T.setTop g) target := by
  obtain ⟨cl, A, -, S, -, H, -⟩ := F
  have hi := inb_of S hb
  exact X.aaload hx (by rw [eT]; exact A.1) (State.isArrayOf_alike hZ.alike A.2.1) rfl A.2.2 hi (H.at hi hv) hg hs hd target hr
theorem own_len2 {p : Program} {l : Launch} {e : Env} {R : Room} {s : State} {m : MethodId} {args : Array Value} {below : List Frame} {meth : Method} {c : Code} {T : State} {locs : List Loc} {cells slots : Nat} {Z : State} {h : Heap} {a : Addr} {k : ClassId} {z : Int32} {vs : List Value} {dv : Value} {ty : FieldType} (X : Stand p l e R s m args below meth c T locs cells slots) (hx : p.tables.exec = Jvm.exec) (hZ : Z.Warmed39 s.vm) (eT : T.heap = h) (F : Arv Z h a k ty z vs dv) {g : JFrame} (hg : g.method = m) {rest : List Value} (hs : g.stack = .ref a :: rest) (hd : decode c.code g.pc = .ok (.arraylength, 1)) (target : State)
    (hr : Steps p.tables e below (T.setTop { g with pc := g.pc + 1, stack := .int z :: rest }) target) : Steps p.tables e below (T.setTop g) target := by
  obtain ⟨cl, A, -, S, N, -, -⟩ := F
  exact X.arraylength hx (by rw [eT]; exact A.1) (State.isArrayOf_alike hZ.alike A.2.1) hg hs hd target (by rw [len_of S N]; exact hr)
theorem own_stD {p : Program} {l : Launch} {e : Env} {R : Room} {s : State} {m : MethodId} {args : Array Value} {below : List Frame} {meth : Method} {c : Code} {T : State} {locs : List Loc} {cells slots : Nat} {Z : State} {h : Heap} {a : Addr} {k : ClassId} {z : Int32} {vs : List Value} {dv : Value} (X : Stand p l e R s m args below meth c T locs cells slots) (hx : p.tables.exec = Jvm.exec) (hZ : Z.Warmed39 s.vm) (eT : T.heap = h) (F : Arv Z h a k .double z vs dv) {j : Int32} {w : UInt64} (hb : ¬ j < 0 ∧ j < z) (i : Nat) (hj : j.toNatClampNeg = i) (hi : i < vs.length) {g : JFrame} (hg : g.method = m) {rest : List Value} (hs : g.stack = .double w :: .int j :: .ref a :: rest) (hd : decode c.code g.pc = .ok (.dastore, 1)) :
    ∃ T' h', Stand p l e R s m args below meth c T' (locs ++ [⟨a, j.toNatClampNeg⟩]) cells slots ∧ T'.heap = h' ∧ Wr h h' a j.toNatClampNeg (.double w) ∧ Arv Z h' a k .double z (vs.set i (.double w)) dv ∧ ∀ target, Steps p.tables e below (T'.setTop { g with pc := g.pc + 1, stack := rest }) target → Steps p.tables e below (T.setTop g) target := by
  obtain ⟨cl, A, q, S, N, H, G⟩ := F
  obtain ⟨T', h', X', e', W', st⟩ := stD X hx hZ eT A (inb_of S hb) hg hs hd
  exact ⟨T', h', X', e', W', Arv.set A q S N H G rfl W' i hj hi, st⟩
theorem own_cloneV {p : Program} {l : Launch} {e : Env} {R : Room} {s : State} {m : MethodId} {args : Array Value} {below : List Frame} {meth : Method} {c : Code} {T : State} {locs : List Loc} {cells slots : Nat} {Z : State} {h : Heap} {a : Addr} {ty : FieldType} (X : Stand p l e R s m args below meth c T locs cells slots) (hx : p.tables.exec = Jvm.exec) (hZ : Z.Warmed39 s.vm) {a0 : Array Value} {own ad : String} {index : Nat} (hown : s.vm.findClass own = some m.cls)
    (w1 : (Cond.methodLink own index ⟨ad, "clone", "()Ljava/lang/Object;"⟩).before a0 Z = true) (w2 : (Cond.sameMethod ad "java/lang/Object" "clone" "()Ljava/lang/Object;").before a0 Z = true) (w3 : (Cond.native ⟨"java/lang/Object", "clone", "()Ljava/lang/Object;"⟩).before a0 Z = true)
    (w4 : (Cond.instanceMethod ⟨"java/lang/Object", "clone", "()Ljava/lang/Object;"⟩).before a0 Z = true) (w5 : (Cond.selects ad ⟨ad, "clone", "()Ljava/lang/Object;"⟩ ⟨"java/lang/Object", "clone", "()Ljava/lang/Object;"⟩).before a0 Z = true) (w6 : (Cond.castable ad "java/lang/Cloneable").before a0 Z = true)
    (eT : T.heap = h) {k : ClassId} {z : Int32} {vs : List Value} {dv : Value} (F : Arv Z h a k ty z vs dv) (E : Exa Z h a ad) {g : JFrame} (hg : g.method = m) (hsize : g.locals.size = c.maxLocals) {rest : List Value} (hst : g.stack = .ref a :: rest) (hd : decode c.code g.pc = .ok (.invokevirtual index, 3))
    (hf : 1 ≤ R.frames) {W cap : Nat} (hW : 2 * g.monitorRoom + (rest.map fun v => v.category).sum ≤ W) (hl : W + 14 ≤ R.locals) (hcap : z.toNatClampNeg ≤ cap) (hc : cells + 1 ≤ R.cells) (hsl : slots + cap ≤ R.slots) :
    ∃ T' h', Stand p l e R s m args below meth c T' locs (cells + 1) (slots + cap) ∧ T'.heap = h' ∧ Ext h h' ∧ Arv Z h' h.size k ty z vs dv ∧ Exa Z h' h.size ad ∧
      ∀ target, Steps p.tables e below (T'.setTop { g with pc := g.pc + 3, stack := .ref h.size :: rest }) target → Steps p.tables e below (T.setTop g) target := by
  obtain ⟨cl, A, q1, S, q3, H, G⟩ := F
  have FC : FitC Z cl := fitC_of A fun i hi v hv => by rw [H i hi] at hv; cases hv; exact G i hi
  obtain ⟨T', h', X', e', ex, A', E', st⟩ := cloneA X hx hZ hown w1 w2 w3 w4 w5 w6 eT A E FC hg hsize hst hd hf hW hl (by rw [S]; exact hcap) hc hsl
  exact ⟨T', h', X', e', ex, ⟨cloneOf cl, A', q1, S, q3, H, G⟩, E', st⟩
theorem own_privBack {p : Program} {l : Launch} {e : Env} {R : Room} {s : State} {m : MethodId} {args : Array Value} {below : List Frame} {meth : Method} {c : Code} {T : State} {locs : List Loc} {cells slots : Nat} (X : Stand p l e R s m args below meth c T locs cells slots) (hexec : p.tables.exec = Jvm.exec) {own C : String} {index : Nat} {y z w : MethodName} {bytes : ByteArray} {maxL : Nat} {ret : Option FieldType}
    (hown : s.vm.findClass own = some m.cls) (hlink : (Cond.methodLink own index y).before args s = true) (hinst : (Cond.instanceMethod y).before args s = true) (hsel : (Cond.selects C z w).before args s = true) (hwy : w.cls = y.cls)
    (hpriv : s.PrivateAt y) (hcode : (Cond.code y bytes maxL ret).before args s = true) (hy : y.cls ≠ "java/lang/invoke/MethodHandle" ∧ y.cls ≠ "java/lang/invoke/VarHandle")
    {W : Nat} {Pre : Free.Pt → Array Value → Prop} {Post : Free.Pt → Array Value → Option Value → Free.Pt → Prop} (hK : Free.Back l R p e below s args y 3 W Pre Post)
    {g : JFrame} (hg : g.method = m) (hsize : g.locals.size = c.maxLocals) {s₀ : State} (hcome : Steps p.tables e below s₀ (T.setTop g)) {a : Addr} {cell : Cell} (hcell : T.heap[a]? = some cell) (hobj : ∀ q, cell.vm ≠ .statics q)
    {argsL rest : List Value} (hlen : ∀ sig, parseMethodDescriptor y.desc = some sig → argsL.length = sig.parameters.length)
    (hstack : g.stack = argsL.reverse ++ .ref a :: rest) (hW : 2 * g.monitorRoom + (rest.map fun v => v.category).sum ≤ W) (hdg : decode c.code g.pc = .ok (.invokevirtual index, 3))
    (hpre : ∀ vm₁, s.WarmedH vm₁ → Pre ⟨T.setVm vm₁, locs, cells, slots⟩ (.ref a :: argsL).toArray) :
    ∃ (v : Option Value) (vm₁ : Vm) (B : Free.Pt), s.WarmedH vm₁ ∧ Stand p l e R s m args below meth c B.U B.locs B.cells B.slots ∧ Post ⟨T.setVm vm₁, locs, cells, slots⟩ (.ref a :: argsL).toArray v B ∧
      Steps p.tables e below s₀ (B.U.setTop { g with pc := g.pc + 3, stack := v.toList ++ rest }) := by
  obtain ⟨mk, methM, hnamed, hmethM, hstM, habM⟩ := Cond.instanceMethod_spec hinst
  obtain ⟨methM', cM, hmethM', -, -, -, -, -, -, hsigM⟩ := Cond.code_spec hnamed hcode
  cases hmethM.symm.trans hmethM'
  obtain ⟨c2, r2, m2, -, -, q3, -, kP, hkP, hkPi⟩ := Cond.selects_spec hsel
  have e2 : m2.cls = mk.cls := by
    have f1 := findClass_of_methodNamed q3
    have f2 := findClass_of_methodNamed hnamed
    rw [hwy] at f1
    exact Option.some.inj (f1.symm.trans f2)
  rw [e2] at hkP
  have hselP : selectMethod e.platform s.vm cell.cls mk = .method mk := selectMethod_private hmethM (hpriv mk methM hnamed hmethM)
  obtain ⟨vm₁, X₁, hstep₁⟩ := X.invokevirtual hexec hown hlink hnamed hmethM hstM hkP hkPi hy (a := a) (cell := cell) hcell hobj hselP hmethM habM hkP hkPi (g := g) hg (argsL := argsL) (rest := rest) (hlen _ hsigM) hstack hdg
  have hW₁ : s.WarmedH vm₁ := X₁.warmed
  obtain ⟨v, B, X', hpost, hsteps⟩ := hK m meth c ⟨T.setVm vm₁, locs, cells, slots⟩ { g with stack := rest } (.invokevirtual index) mk (.ref a :: argsL).toArray X₁ hg hsize hdg hW (X₁.named hnamed) (hpre vm₁ hW₁)
  exact ⟨v, vm₁, B, hW₁, X', hpost, (hcome.trans (hstep₁ _ fun acts => by rw [doInvoke_state]; exact Steps.refl _)).trans hsteps⟩
theorem own_nd {L : List Addr} (h : L.Nodup) {i j : Nat} {a b : Addr} (hi : L[i]? = some a) (hj : L[j]? = some b) (q : i ≠ j) : a ≠ b := fun e => by
  subst e
  obtain ⟨h1, e1⟩ := List.getElem?_eq_some_iff.mp hi
  exact q ((List.getElem?_inj h1 h).mp (hi.trans hj.symm))
theorem own_ndS {a : Addr} {L : List Addr} (q : a ∉ L) (h : L.Nodup) : (a :: L).Nodup := List.nodup_cons.mpr ⟨q, h⟩
def own_P (u v w : UInt64) : Prop := (u = (4607182418800017408 : UInt64) ∧ v = (4607182418800017408 : UInt64) ∧ w = (13830554455654793216 : UInt64)) ∨ (u = (4611686018427387904 : UInt64) ∧ v = (4602678819172646912 : UInt64) ∧ w = (13826050856027422720 : UInt64)) ∨ (u = (4616189618054758400 : UInt64) ∧ v = (4598175219545276416 : UInt64) ∧ w = (13821547256400052224 : UInt64)) ∨ (u = (4620693217682128896 : UInt64) ∧ v = (4593671619917905920 : UInt64) ∧ w = (13817043656772681728 : UInt64))
def own_tot (a b e f : UInt64) : UInt64 := FP.dadd (FP.dadd FP.dconst0 (FP.dmul a e)) (FP.dmul b f)
def own_ok (a b e f : UInt64) : Prop := Jvm.Free.Fl.NoNaN64 (FP.dmul a e) ∧ Jvm.Free.Fl.NoNaN64 (FP.dadd FP.dconst0 (FP.dmul a e)) ∧ Jvm.Free.Fl.NoNaN64 (FP.dmul b f) ∧ Jvm.Free.Fl.NoNaN64 (FP.dadd (FP.dadd FP.dconst0 (FP.dmul a e)) (FP.dmul b f))
abbrev oF_fillI (m : MethodId) (pc : Nat) (a0 a1 a2 a3 : Slot) (S : List Value) : JFrame := mkF m pc #[a0, a1, a2, a3] S
theorem o103_0 : decode jdk_65_method_103_code 0 = .ok (.iconst 0, 1) := by decide +kernel
theorem o103_1 : decode jdk_65_method_103_code 1 = .ok (.istore_n 2, 1) := by decide +kernel
theorem o103_2 : decode jdk_65_method_103_code 2 = .ok (.aload_n 0, 1) := by decide +kernel
theorem o103_3 : decode jdk_65_method_103_code 3 = .ok (.arraylength, 1) := by decide +kernel
theorem o103_4 : decode jdk_65_method_103_code 4 = .ok (.istore_n 3, 1) := by decide +kernel
theorem o103_5 : decode jdk_65_method_103_code 5 = .ok (.iload_n 2, 1) := by decide +kernel
theorem o103_6 : decode jdk_65_method_103_code 6 = .ok (.iload_n 3, 1) := by decide +kernel
theorem o103_7 : decode jdk_65_method_103_code 7 = .ok (.if_icmp .ge 13, 3) := by decide +kernel
theorem o103_10 : decode jdk_65_method_103_code 10 = .ok (.aload_n 0, 1) := by decide +kernel
theorem o103_11 : decode jdk_65_method_103_code 11 = .ok (.iload_n 2, 1) := by decide +kernel
theorem o103_12 : decode jdk_65_method_103_code 12 = .ok (.iload_n 1, 1) := by decide +kernel
theorem o103_13 : decode jdk_65_method_103_code 13 = .ok (.iastore, 1) := by decide +kernel
theorem o103_14 : decode jdk_65_method_103_code 14 = .ok (.iinc 2 1, 3) := by decide +kernel
theorem o103_17 : decode jdk_65_method_103_code 17 = .ok (.goto (-12), 3) := by decide +kernel
theorem o103_20 : decode jdk_65_method_103_code 20 = .ok (.return_, 1) := by decide +kernel
theorem own_ef_fillI (m : MethodId) (x0 : Addr) (x1 : Int32) : entryFrame m #[(.ref x0), (.int x1)] 4 = mkF m 0 #[(oR x0), (oi x1), .unset, .unset] [] := by first | (simp [entryFrame, mkF, argsToLocals, Value.category]; done) | rfl
def own_Q_fillI (Z : State) (pa : Addr) (pv : Int32) (ck : ClassId) (h0 : Heap) (n0 : Nat) (v : Option Value) (h : Heap) (L : List Loc) : Prop := v = none ∧ Fr n0 L ∧ Keep h0 h [pa] ∧ Arv Z h pa ck .int (2 : Int32) [(.int pv), (.int pv)] (.int 0)
theorem own_pn_java_util_Arrays : plainName "java/util/Arrays" = true := by first | (simp [plainName, overriddenIn]; done) | decide +kernel
set_option maxRecDepth 65536 in
set_option maxHeartbeats 40000000 in
theorem own_rm_fillI (l : Launch) (Z : State) (a0 : Array Value) (hw : ∀ d ∈ tables_1, d.before a0 Z = true) (ws : List Jvm.Cond) (pa : Addr) (pv : Int32) (ck : ClassId) (h0 : Heap) (n0 : Nat) (Z0 : n0 ≤ h0.size) (V0 : Arv Z h0 pa ck .int (2 : Int32) [(.int 0), (.int 0)] (.int 0)) (g_pa : n0 ≤ pa) :
    MetFree l (⟨"java/util/Arrays", "fill", "([II)V"⟩ : MethodName) (head1 (Jvm.Cond.code (⟨"java/util/Arrays", "fill", "([II)V"⟩ : MethodName) jdk_65_method_103_code 4 none :: ws) ({ frames := 0, cells := 0, slots := 0, locals := 0 } : Room)) (fun a U => a = #[(.ref pa), (.int pv)] ∧ Z.Warmed39 U.vm ∧ U.heap = h0) (fun _ _ _ _ _ => True) (fun _ U o U' => ∃ v L, o = .returned v ∧ own_Q_fillI Z pa pv ck h0 n0 v U'.heap L ∧ FrameEnd U o U' L ({ frames := 0, cells := 0, slots := 0, locals := 0 } : Room).cells ({ frames := 0, cells := 0, slots := 0, locals := 0 } : Room).slots) := by
  refine MetFree.of_bodySF (plainFor_of_name own_pn_java_util_Arrays) hisR ?_
  intro p e s m args below meth c s₁ Bd hml0 hP hKq_
  obtain ⟨rfl, hZ, hh⟩ := hP
  have hx := Bd.exec
  have hby := Bd.bytes
  have hml : c.maxLocals = 4 := hml0
  have hown : s.vm.findClass "java/util/Arrays" = some m.cls := findClass_of_methodNamed Bd.named
  have hnm := (name_of_methodNamed Bd.named Bd.method).1
  have X0 : Stand p l e ({ frames := 0, cells := 0, slots := 0, locals := 0 } : Room) s m #[(.ref pa), (.int pv)] below meth c s₁ [] 0 0 := Stand.of_body Bd
  have e0 : s₁.heap = h0 := by rw [← hh, Bd.state]; rfl
  have N0 := Fr.nil n0
  have pre0 : ∀ t, Steps p.tables e below (s₁.setTop (mkF m 0 #[(oR pa), (oi pv), .unset, .unset] [])) t → Steps p.tables e below (s₁.setTop (entryFrame m #[(.ref pa), (.int pv)] 4)) t := fun t k => castTop (own_ef_fillI m pa pv) k
  refine own_go pre0 ?_
  refine own_abs ?_
  intro Pf hPf
  refine own_go (A := oW p e below s₁ (oF_fillI m 13 (oR pa) (oi pv) (oi 0) (oi 2) [(.int pv), (.int 0), (.ref pa)])) (fun t k => by
    refine XS.iconst X0.here hx rfl (hb hby o103_0) ?_
    show oW p e below s₁ (oF_fillI m 1 (oR pa) (oi pv) .unset .unset [(.int 0)]) _
    refine XS.istoreN X0.here hx rfl (hb hby o103_1) rfl (l' := #[(oR pa), (oi pv), (oi 0), .unset]) rfl ?_
    show oW p e below s₁ (oF_fillI m 2 (oR pa) (oi pv) (oi 0) .unset []) _
    refine XS.aloadN X0.here hx rfl (hb hby o103_2) rfl rfl ?_
    show oW p e below s₁ (oF_fillI m 3 (oR pa) (oi pv) (oi 0) .unset [(.ref pa)]) _
    refine own_len2 X0 hx hZ e0 V0 (g := (oF_fillI m 3 (oR pa) (oi pv) (oi 0) .unset [(.ref pa)])) rfl rfl (hb hby o103_3) _ ?_
    show oW p e below s₁ (oF_fillI m 4 (oR pa) (oi pv) (oi 0) .unset [(.int 2)]) _
    refine XS.istoreN X0.here hx rfl (hb hby o103_4) rfl (l' := #[(oR pa), (oi pv), (oi 0), (oi 2)]) rfl ?_
    show oW p e below s₁ (oF_fillI m 5 (oR pa) (oi pv) (oi 0) (oi 2) []) _
    refine XS.iloadN X0.here hx rfl (hb hby o103_5) rfl ?_
    show oW p e below s₁ (oF_fillI m 6 (oR pa) (oi pv) (oi 0) (oi 2) [(.int 0)]) _
    refine XS.iloadN X0.here hx rfl (hb hby o103_6) rfl ?_
    show oW p e below s₁ (oF_fillI m 7 (oR pa) (oi pv) (oi 0) (oi 2) [(.int 2), (.int 0)]) _
    refine XS.icmpNo X0.here hx rfl (hb hby o103_7) rfl (tlt (by decide : (0 : Int32) < (2 : Int32))).2.1 ?_
    show oW p e below s₁ (oF_fillI m 10 (oR pa) (oi pv) (oi 0) (oi 2) []) _
    refine XS.aloadN X0.here hx rfl (hb hby o103_10) rfl rfl ?_
    show oW p e below s₁ (oF_fillI m 11 (oR pa) (oi pv) (oi 0) (oi 2) [(.ref pa)]) _
    refine XS.iloadN X0.here hx rfl (hb hby o103_11) rfl ?_
    show oW p e below s₁ (oF_fillI m 12 (oR pa) (oi pv) (oi 0) (oi 2) [(.int 0), (.ref pa)]) _
    refine XS.iloadN X0.here hx rfl (hb hby o103_12) rfl ?_
    exact k) ?_
  obtain ⟨cl1, Ar1, q1, S1, N1, H1, G1⟩ := id (V0)
  have hi1 : ¬ ((0 : Int32) < 0 ∨ cl1.slots.size ≤ ((0 : Int32)).toNatClampNeg) := inb_of S1 ⟨by decide, by decide⟩
  obtain ⟨T2, h2, X2, e2, W2, st2⟩ := stI X0 hx hZ e0 Ar1 (j := (0 : Int32)) hi1 (g := (oF_fillI m 13 (oR pa) (oi pv) (oi 0) (oi 2) [(.int pv), (.int 0), (.ref pa)])) rfl rfl (hb hby o103_13)
  refine own_go st2 ?_
  have V2 : Arv Z h2 pa ck .int (2 : Int32) [(.int pv), (.int 0)] (.int 0) := Arv.set Ar1 q1 S1 N1 H1 G1 rfl W2 0 rfl (Nat.le_of_ble_eq_true rfl)
  have f2_0 : Arv Z h2 pa ck .int (2 : Int32) [(.int pv), (.int 0)] (.int 0) := V2
  have N2 := Fr.snoc X2 N0 g_pa
  have Z2 : n0 ≤ h2.size := Nat.le_trans Z0 (Keep.of_wr W2).1
  have K2 : Keep h0 h2 [pa] := (Keep.refl h0 [pa]).wr W2 (Or.inl (List.mem_of_getElem? (i := 0) rfl))
  refine own_go (A := oW p e below T2 (oF_fillI m 13 (oR pa) (oi pv) (oi 1) (oi 2) [(.int pv), (.int 1), (.ref pa)])) (fun t k => by
    refine XS.iinc X2.here hx rfl (hb hby o103_14) rfl (l' := #[(oR pa), (oi pv), (oi 1), (oi 2)]) rfl ?_
    show oW p e below T2 (oF_fillI m 17 (oR pa) (oi pv) (oi 1) (oi 2) []) _
    refine XS.goto X2.here hx rfl (pc0 := 17) (pc' := 5) rfl (hb hby o103_17) (by decide) (by decide) ?_
    show oW p e below T2 (oF_fillI m 5 (oR pa) (oi pv) (oi 1) (oi 2) []) _
    refine XS.iloadN X2.here hx rfl (hb hby o103_5) rfl ?_
    show oW p e below T2 (oF_fillI m 6 (oR pa) (oi pv) (oi 1) (oi 2) [(.int 1)]) _
    refine XS.iloadN X2.here hx rfl (hb hby o103_6) rfl ?_
    show oW p e below T2 (oF_fillI m 7 (oR pa) (oi pv) (oi 1) (oi 2) [(.int 2), (.int 1)]) _
    refine XS.icmpNo X2.here hx rfl (hb hby o103_7) rfl (tlt (by decide : (1 : Int32) < (2 : Int32))).2.1 ?_
    show oW p e below T2 (oF_fillI m 10 (oR pa) (oi pv) (oi 1) (oi 2) []) _
    refine XS.aloadN X2.here hx rfl (hb hby o103_10) rfl rfl ?_
    show oW p e below T2 (oF_fillI m 11 (oR pa) (oi pv) (oi 1) (oi 2) [(.ref pa)]) _
    refine XS.iloadN X2.here hx rfl (hb hby o103_11) rfl ?_
    show oW p e below T2 (oF_fillI m 12 (oR pa) (oi pv) (oi 1) (oi 2) [(.int 1), (.ref pa)]) _
    refine XS.iloadN X2.here hx rfl (hb hby o103_12) rfl ?_
    exact k) ?_
  obtain ⟨cl3, Ar3, q3, S3, N3, H3, G3⟩ := id (f2_0)
  have hi3 : ¬ ((1 : Int32) < 0 ∨ cl3.slots.size ≤ ((1 : Int32)).toNatClampNeg) := inb_of S3 ⟨by decide, by decide⟩
  obtain ⟨T4, h4, X4, e4, W4, st4⟩ := stI X2 hx hZ e2 Ar3 (j := (1 : Int32)) hi3 (g := (oF_fillI m 13 (oR pa) (oi pv) (oi 1) (oi 2) [(.int pv), (.int 1), (.ref pa)])) rfl rfl (hb hby o103_13)
  refine own_go st4 ?_
  have V4 : Arv Z h4 pa ck .int (2 : Int32) [(.int pv), (.int pv)] (.int 0) := Arv.set Ar3 q3 S3 N3 H3 G3 rfl W4 1 rfl (Nat.le_of_ble_eq_true rfl)
  have f4_0 : Arv Z h4 pa ck .int (2 : Int32) [(.int pv), (.int pv)] (.int 0) := V4
  have N4 := Fr.snoc X4 N2 g_pa
  have Z4 : n0 ≤ h4.size := Nat.le_trans Z2 (Keep.of_wr W4).1
  have K4 : Keep h0 h4 [pa] := K2.wr W4 (Or.inl (List.mem_of_getElem? (i := 0) rfl))
  refine own_go (A := oW p e below T4 (oF_fillI m 20 (oR pa) (oi pv) (oi 2) (oi 2) [])) (fun t k => by
    refine XS.iinc X4.here hx rfl (hb hby o103_14) rfl (l' := #[(oR pa), (oi pv), (oi 2), (oi 2)]) rfl ?_
    show oW p e below T4 (oF_fillI m 17 (oR pa) (oi pv) (oi 2) (oi 2) []) _
    refine XS.goto X4.here hx rfl (pc0 := 17) (pc' := 5) rfl (hb hby o103_17) (by decide) (by decide) ?_
    show oW p e below T4 (oF_fillI m 5 (oR pa) (oi pv) (oi 2) (oi 2) []) _
    refine XS.iloadN X4.here hx rfl (hb hby o103_5) rfl ?_
    show oW p e below T4 (oF_fillI m 6 (oR pa) (oi pv) (oi 2) (oi 2) [(.int 2)]) _
    refine XS.iloadN X4.here hx rfl (hb hby o103_6) rfl ?_
    show oW p e below T4 (oF_fillI m 7 (oR pa) (oi pv) (oi 2) (oi 2) [(.int 2), (.int 2)]) _
    refine XS.icmpYes X4.here hx rfl (pc0 := 7) (pc' := 20) rfl (hb hby o103_7) rfl (flt (by decide : ¬ ((2 : Int32) < (2 : Int32)))).2.1 (by decide) (by decide) ?_
    exact k) ?_
  obtain ⟨fs, hr, hrun, hended, hW, hsame⟩ := X4.leave (v := none) (fun _ => rfl)
  refine ⟨_, _, X4.returnOut hx Bd.returns (hb hby o103_20) hr, hPf _ _ ⟨hrun, hended, _, _, rfl, ?_, ⟨_, rfl⟩, hW, hsame.mono (by decide) (by decide)⟩⟩
  show own_Q_fillI Z pa pv ck h0 n0 _ T4.heap _
  rw [e4]
  exact ⟨rfl, N4, K4, f4_0⟩
abbrev oF_range (m : MethodId) (pc : Nat) (a0 a1 a2 : Slot) (S : List Value) : JFrame := mkF m pc #[a0, a1, a2] S
theorem o530_0 : decode jdk_65_method_30_code 0 = .ok (.iload_n 1, 1) := by decide +kernel
theorem o530_1 : decode jdk_65_method_30_code 1 = .ok (.iload_n 2, 1) := by decide +kernel
theorem o530_2 : decode jdk_65_method_30_code 2 = .ok (.if_icmp .le 44, 3) := by decide +kernel
theorem o530_46 : decode jdk_65_method_30_code 46 = .ok (.iload_n 1, 1) := by decide +kernel
theorem o530_47 : decode jdk_65_method_30_code 47 = .ok (.ifCond .ge 12, 3) := by decide +kernel
theorem o530_59 : decode jdk_65_method_30_code 59 = .ok (.iload_n 2, 1) := by decide +kernel
theorem o530_60 : decode jdk_65_method_30_code 60 = .ok (.iload_n 0, 1) := by decide +kernel
theorem o530_61 : decode jdk_65_method_30_code 61 = .ok (.if_icmp .le 12, 3) := by decide +kernel
theorem o530_73 : decode jdk_65_method_30_code 73 = .ok (.return_, 1) := by decide +kernel
theorem own_ef_range (m : MethodId) (x0 : Int32) (x1 : Int32) (x2 : Int32) : entryFrame m #[(.int x0), (.int x1), (.int x2)] 3 = mkF m 0 #[(oi x0), (oi x1), (oi x2)] [] := by first | (simp [entryFrame, mkF, argsToLocals, Value.category]; done) | rfl
def own_Q_range (Z : State)  (h0 : Heap) (n0 : Nat) (v : Option Value) (h : Heap) (L : List Loc) : Prop := v = none ∧ Fr n0 L ∧ h = h0
set_option maxRecDepth 65536 in
set_option maxHeartbeats 40000000 in
theorem own_rm_range (l : Launch) (Z : State) (a0 : Array Value) (hw : ∀ d ∈ tables_1, d.before a0 Z = true) (ws : List Jvm.Cond)  (h0 : Heap) (n0 : Nat) (Z0 : n0 ≤ h0.size) :
    MetFree l (⟨"java/util/Arrays", "rangeCheck", "(III)V"⟩ : MethodName) (head1 (Jvm.Cond.code (⟨"java/util/Arrays", "rangeCheck", "(III)V"⟩ : MethodName) jdk_65_method_30_code 3 none :: ws) ({ frames := 0, cells := 0, slots := 0, locals := 0 } : Room)) (fun a U => a = #[(.int 4), (.int 2), (.int 4)] ∧ Z.Warmed39 U.vm ∧ U.heap = h0) (fun _ _ _ _ _ => True) (fun _ U o U' => ∃ v L, o = .returned v ∧ own_Q_range Z  h0 n0 v U'.heap L ∧ FrameEnd U o U' L ({ frames := 0, cells := 0, slots := 0, locals := 0 } : Room).cells ({ frames := 0, cells := 0, slots := 0, locals := 0 } : Room).slots) := by
  refine MetFree.of_bodySF (plainFor_of_name own_pn_java_util_Arrays) hisR ?_
  intro p e s m args below meth c s₁ Bd hml0 hP hKq_
  obtain ⟨rfl, hZ, hh⟩ := hP
  have hx := Bd.exec
  have hby := Bd.bytes
  have hml : c.maxLocals = 3 := hml0
  have hown : s.vm.findClass "java/util/Arrays" = some m.cls := findClass_of_methodNamed Bd.named
  have hnm := (name_of_methodNamed Bd.named Bd.method).1
  have X0 : Stand p l e ({ frames := 0, cells := 0, slots := 0, locals := 0 } : Room) s m #[(.int 4), (.int 2), (.int 4)] below meth c s₁ [] 0 0 := Stand.of_body Bd
  have e0 : s₁.heap = h0 := by rw [← hh, Bd.state]; rfl
  have N0 := Fr.nil n0
  have pre0 : ∀ t, Steps p.tables e below (s₁.setTop (mkF m 0 #[(oi 4), (oi 2), (oi 4)] [])) t → Steps p.tables e below (s₁.setTop (entryFrame m #[(.int 4), (.int 2), (.int 4)] 3)) t := fun t k => castTop (own_ef_range m (4 : Int32) (2 : Int32) (4 : Int32)) k
  refine own_go pre0 ?_
  refine own_abs ?_
  intro Pf hPf
  refine own_go (A := oW p e below s₁ (oF_range m 73 (oi 4) (oi 2) (oi 4) [])) (fun t k => by
    refine XS.iloadN X0.here hx rfl (hb hby o530_0) rfl ?_
    show oW p e below s₁ (oF_range m 1 (oi 4) (oi 2) (oi 4) [(.int 2)]) _
    refine XS.iloadN X0.here hx rfl (hb hby o530_1) rfl ?_
    show oW p e below s₁ (oF_range m 2 (oi 4) (oi 2) (oi 4) [(.int 4), (.int 2)]) _
    refine XS.icmpYes X0.here hx rfl (pc0 := 2) (pc' := 46) rfl (hb hby o530_2) rfl (flt (by decide : ¬ ((4 : Int32) < (2 : Int32)))).2.2.2 (by decide) (by decide) ?_
    show oW p e below s₁ (oF_range m 46 (oi 4) (oi 2) (oi 4) []) _
    refine XS.iloadN X0.here hx rfl (hb hby o530_46) rfl ?_
    show oW p e below s₁ (oF_range m 47 (oi 4) (oi 2) (oi 4) [(.int 2)]) _
    refine XS.ifYes X0.here hx rfl (pc0 := 47) (pc' := 59) rfl (hb hby o530_47) rfl ((if0 _ _).trans (flt (by decide : ¬ ((2 : Int32) < (0 : Int32)))).2.1) (by decide) (by decide) ?_
    show oW p e below s₁ (oF_range m 59 (oi 4) (oi 2) (oi 4) []) _
    refine XS.iloadN X0.here hx rfl (hb hby o530_59) rfl ?_
    show oW p e below s₁ (oF_range m 60 (oi 4) (oi 2) (oi 4) [(.int 4)]) _
    refine XS.iloadN X0.here hx rfl (hb hby o530_60) rfl ?_
    show oW p e below s₁ (oF_range m 61 (oi 4) (oi 2) (oi 4) [(.int 4), (.int 4)]) _
    refine XS.icmpYes X0.here hx rfl (pc0 := 61) (pc' := 73) rfl (hb hby o530_61) rfl (flt (by decide : ¬ ((4 : Int32) < (4 : Int32)))).2.2.2 (by decide) (by decide) ?_
    exact k) ?_
  obtain ⟨fs, hr, hrun, hended, hW, hsame⟩ := X0.leave (v := none) (fun _ => rfl)
  refine ⟨_, _, X0.returnOut hx Bd.returns (hb hby o530_73) hr, hPf _ _ ⟨hrun, hended, _, _, rfl, ?_, ⟨_, rfl⟩, hW, hsame.mono (by decide) (by decide)⟩⟩
  show own_Q_range Z  h0 n0 _ s₁.heap _
  rw [e0]
  exact ⟨rfl, N0, rfl⟩
abbrev oF_fillD (m : MethodId) (pc : Nat) (a0 a1 a2 a3 a4 a5 : Slot) (S : List Value) : JFrame := mkF m pc #[a0, a1, a2, a3, a4, a5] S
theorem o114_0 : decode jdk_65_method_114_code 0 = .ok (.aload_n 0, 1) := by decide +kernel
theorem o114_1 : decode jdk_65_method_114_code 1 = .ok (.arraylength, 1) := by decide +kernel
theorem o114_2 : decode jdk_65_method_114_code 2 = .ok (.iload_n 1, 1) := by decide +kernel
theorem o114_3 : decode jdk_65_method_114_code 3 = .ok (.iload_n 2, 1) := by decide +kernel
theorem o114_4 : decode jdk_65_method_114_code 4 = .ok (.invokestatic 13, 3) := by decide +kernel
theorem own_pd_28III29V : parseMethodDescriptor "(III)V" = some ⟨[.int, .int, .int], none⟩ := by decide +kernel
theorem o114_7 : decode jdk_65_method_114_code 7 = .ok (.iload_n 1, 1) := by decide +kernel
theorem o114_8 : decode jdk_65_method_114_code 8 = .ok (.istore 5, 2) := by decide +kernel
theorem o114_10 : decode jdk_65_method_114_code 10 = .ok (.iload 5, 2) := by decide +kernel
theorem o114_12 : decode jdk_65_method_114_code 12 = .ok (.iload_n 2, 1) := by decide +kernel
theorem o114_13 : decode jdk_65_method_114_code 13 = .ok (.if_icmp .ge 14, 3) := by decide +kernel
theorem o114_16 : decode jdk_65_method_114_code 16 = .ok (.aload_n 0, 1) := by decide +kernel
theorem o114_17 : decode jdk_65_method_114_code 17 = .ok (.iload 5, 2) := by decide +kernel
theorem o114_19 : decode jdk_65_method_114_code 19 = .ok (.dload_n 3, 1) := by decide +kernel
theorem o114_20 : decode jdk_65_method_114_code 20 = .ok (.dastore, 1) := by decide +kernel
theorem o114_21 : decode jdk_65_method_114_code 21 = .ok (.iinc 5 1, 3) := by decide +kernel
theorem o114_24 : decode jdk_65_method_114_code 24 = .ok (.goto (-14), 3) := by decide +kernel
theorem o114_27 : decode jdk_65_method_114_code 27 = .ok (.return_, 1) := by decide +kernel
theorem own_ef_fillD (m : MethodId) (x0 : Addr) (x1 : Int32) (x2 : Int32) (x3 : UInt64) : entryFrame m #[(.ref x0), (.int x1), (.int x2), (.double x3)] 6 = mkF m 0 #[(oR x0), (oi x1), (oi x2), (od x3), .second, .unset] [] := by first | (simp [entryFrame, mkF, argsToLocals, Value.category]; done) | rfl
def own_Q_fillD (Z : State) (pa : Addr) (ck : ClassId) (d0 d1 d2 d3 : UInt64) (h0 : Heap) (n0 : Nat) (v : Option Value) (h : Heap) (L : List Loc) : Prop := v = none ∧ Fr n0 L ∧ Keep h0 h [pa] ∧ Arv Z h pa ck .double (4 : Int32) [(.double d0), (.double d1), (.double FP.dconst0), (.double FP.dconst0)] (.double 0)
set_option maxRecDepth 65536 in
set_option maxHeartbeats 40000000 in
theorem own_rm_fillD (l : Launch) (Z : State) (a0 : Array Value) (hw : ∀ d ∈ tables_1, d.before a0 Z = true) (ws : List Jvm.Cond) (pa : Addr) (ck : ClassId) (d0 d1 d2 d3 : UInt64) (h0 : Heap) (n0 : Nat) (Z0 : n0 ≤ h0.size) (V0 : Arv Z h0 pa ck .double (4 : Int32) [(.double d0), (.double d1), (.double d2), (.double d3)] (.double 0)) (g_pa : n0 ≤ pa) :
    MetFree l (⟨"java/util/Arrays", "fill", "([DIID)V"⟩ : MethodName) (head1 (Jvm.Cond.code (⟨"java/util/Arrays", "fill", "([DIID)V"⟩ : MethodName) jdk_65_method_114_code 6 none :: ws) ({ frames := 1, cells := 0, slots := 0, locals := 14 } : Room)) (fun a U => a = #[(.ref pa), (.int 2), (.int 4), (.double FP.dconst0)] ∧ Z.Warmed39 U.vm ∧ U.heap = h0) (fun _ _ _ _ _ => True) (fun _ U o U' => ∃ v L, o = .returned v ∧ own_Q_fillD Z pa ck d0 d1 d2 d3 h0 n0 v U'.heap L ∧ FrameEnd U o U' L ({ frames := 1, cells := 0, slots := 0, locals := 14 } : Room).cells ({ frames := 1, cells := 0, slots := 0, locals := 14 } : Room).slots) := by
  refine MetFree.of_bodySF (plainFor_of_name own_pn_java_util_Arrays) hisR ?_
  intro p e s m args below meth c s₁ Bd hml0 hP hKq_
  obtain ⟨rfl, hZ, hh⟩ := hP
  have hx := Bd.exec
  have hby := Bd.bytes
  have hml : c.maxLocals = 6 := hml0
  have hown : s.vm.findClass "java/util/Arrays" = some m.cls := findClass_of_methodNamed Bd.named
  have hnm := (name_of_methodNamed Bd.named Bd.method).1
  have ow52 := hw _ (List.mem_of_getElem? (i := 52) rfl)
  have ow73 := hw _ (List.mem_of_getElem? (i := 73) rfl)
  have ow74 := hw _ (List.mem_of_getElem? (i := 74) rfl)
  have ow75 := hw _ (List.mem_of_getElem? (i := 75) rfl)
  have X0 : Stand p l e ({ frames := 1, cells := 0, slots := 0, locals := 14 } : Room) s m #[(.ref pa), (.int 2), (.int 4), (.double FP.dconst0)] below meth c s₁ [] 0 0 := Stand.of_body Bd
  have e0 : s₁.heap = h0 := by rw [← hh, Bd.state]; rfl
  have N0 := Fr.nil n0
  have pre0 : ∀ t, Steps p.tables e below (s₁.setTop (mkF m 0 #[(oR pa), (oi 2), (oi 4), (od FP.dconst0), .second, .unset] [])) t → Steps p.tables e below (s₁.setTop (entryFrame m #[(.ref pa), (.int 2), (.int 4), (.double FP.dconst0)] 6)) t := fun t k => castTop (own_ef_fillD m pa (2 : Int32) (4 : Int32) FP.dconst0) k
  refine own_go pre0 ?_
  refine own_abs ?_
  intro Pf hPf
  refine own_go (A := oW p e below s₁ (oF_fillD m 4 (oR pa) (oi 2) (oi 4) (od FP.dconst0) .second .unset [(.int 4), (.int 2), (.int 4)])) (fun t k => by
    refine XS.aloadN X0.here hx rfl (hb hby o114_0) rfl rfl ?_
    show oW p e below s₁ (oF_fillD m 1 (oR pa) (oi 2) (oi 4) (od FP.dconst0) .second .unset [(.ref pa)]) _
    refine own_len2 X0 hx hZ e0 V0 (g := (oF_fillD m 1 (oR pa) (oi 2) (oi 4) (od FP.dconst0) .second .unset [(.ref pa)])) rfl rfl (hb hby o114_1) _ ?_
    show oW p e below s₁ (oF_fillD m 2 (oR pa) (oi 2) (oi 4) (od FP.dconst0) .second .unset [(.int 4)]) _
    refine XS.iloadN X0.here hx rfl (hb hby o114_2) rfl ?_
    show oW p e below s₁ (oF_fillD m 3 (oR pa) (oi 2) (oi 4) (od FP.dconst0) .second .unset [(.int 2), (.int 4)]) _
    refine XS.iloadN X0.here hx rfl (hb hby o114_3) rfl ?_
    exact k) ?_
  obtain ⟨_, _, ⟨T1, L1, k1, n1⟩, -, X1, ⟨Lc1, hQ1, l1, y1, z1⟩, st1⟩ := Jvm.LawKit.callS X0 hx (y := (⟨"java/util/Arrays", "rangeCheck", "(III)V"⟩ : MethodName)) hown (mvT hZ ow73) (mvT hZ ow74) (mvT hZ ow52) (mvT hZ ow75) (by decide) (backOf (W := 0) (own_rm_range l Z a0 hw []  h0 n0 Z0 ) hZ ow75 ow52 (by decide) (by decide)) (g := (oF_fillD m 4 (oR pa) (oi 2) (oi 4) (od FP.dconst0) .second .unset [(.int 4), (.int 2), (.int 4)])) rfl (by rw [hml]; rfl) (argsL := [(.int 4), (.int 2), (.int 4)]) (rest := []) (lenOf own_pd_28III29V rfl) rfl (by show 2 * 0 + _ ≤ _; exact Nat.le_of_eq rfl) (hb hby o114_4) (fun _ _ => ⟨rfl, e0, (by decide : 0 + 0 ≤ _), (by decide : 0 + 0 ≤ _)⟩)
  dsimp only [Pt.U, Pt.locs, Pt.cells, Pt.slots] at X1 l1 y1 z1 st1 hQ1
  subst l1 y1 z1
  obtain ⟨rfl, N1q, eh1⟩ := hQ1
  have N1 := Fr.app N0 N1q
  refine own_go st1 ?_
  refine own_go (A := oW p e below T1 (oF_fillD m 20 (oR pa) (oi 2) (oi 4) (od FP.dconst0) .second (oi 2) [(.double FP.dconst0), (.int 2), (.ref pa)])) (fun t k => by
    refine XS.iloadN X1.here hx rfl (hb hby o114_7) rfl ?_
    show oW p e below T1 (oF_fillD m 8 (oR pa) (oi 2) (oi 4) (od FP.dconst0) .second .unset [(.int 2)]) _
    refine XS.istore X1.here hx rfl (hb hby o114_8) rfl (l' := #[(oR pa), (oi 2), (oi 4), (od FP.dconst0), .second, (oi 2)]) rfl ?_
    show oW p e below T1 (oF_fillD m 10 (oR pa) (oi 2) (oi 4) (od FP.dconst0) .second (oi 2) []) _
    refine XS.iload X1.here hx rfl (hb hby o114_10) rfl ?_
    show oW p e below T1 (oF_fillD m 12 (oR pa) (oi 2) (oi 4) (od FP.dconst0) .second (oi 2) [(.int 2)]) _
    refine XS.iloadN X1.here hx rfl (hb hby o114_12) rfl ?_
    show oW p e below T1 (oF_fillD m 13 (oR pa) (oi 2) (oi 4) (od FP.dconst0) .second (oi 2) [(.int 4), (.int 2)]) _
    refine XS.icmpNo X1.here hx rfl (hb hby o114_13) rfl (tlt (by decide : (2 : Int32) < (4 : Int32))).2.1 ?_
    show oW p e below T1 (oF_fillD m 16 (oR pa) (oi 2) (oi 4) (od FP.dconst0) .second (oi 2) []) _
    refine XS.aloadN X1.here hx rfl (hb hby o114_16) rfl rfl ?_
    show oW p e below T1 (oF_fillD m 17 (oR pa) (oi 2) (oi 4) (od FP.dconst0) .second (oi 2) [(.ref pa)]) _
    refine XS.iload X1.here hx rfl (hb hby o114_17) rfl ?_
    show oW p e below T1 (oF_fillD m 19 (oR pa) (oi 2) (oi 4) (od FP.dconst0) .second (oi 2) [(.int 2), (.ref pa)]) _
    refine XS.dloadN X1.here hx rfl (hb hby o114_19) rfl ?_
    exact k) ?_
  obtain ⟨T2, h2, X2, e2, W2, U2, st2⟩ := own_stD X1 hx hZ eh1 V0 (j := (2 : Int32)) ⟨by decide, by decide⟩ 2 rfl (Nat.le_of_ble_eq_true rfl) (g := (oF_fillD m 20 (oR pa) (oi 2) (oi 4) (od FP.dconst0) .second (oi 2) [(.double FP.dconst0), (.int 2), (.ref pa)])) rfl rfl (hb hby o114_20)
  refine own_go st2 ?_
  have V2 : Arv Z h2 pa ck .double (4 : Int32) [(.double d0), (.double d1), (.double FP.dconst0), (.double d3)] (.double 0) := U2
  have N2 := Fr.snoc X2 N1 g_pa
  have Z2 : n0 ≤ h2.size := Nat.le_trans Z0 (Keep.of_wr W2).1
  have K2 : Keep h0 h2 [pa] := (Keep.refl h0 [pa]).wr W2 (Or.inl (List.mem_of_getElem? (i := 0) rfl))
  refine own_go (A := oW p e below T2 (oF_fillD m 20 (oR pa) (oi 2) (oi 4) (od FP.dconst0) .second (oi 3) [(.double FP.dconst0), (.int 3), (.ref pa)])) (fun t k => by
    refine XS.iinc X2.here hx rfl (hb hby o114_21) rfl (l' := #[(oR pa), (oi 2), (oi 4), (od FP.dconst0), .second, (oi 3)]) rfl ?_
    show oW p e below T2 (oF_fillD m 24 (oR pa) (oi 2) (oi 4) (od FP.dconst0) .second (oi 3) []) _
    refine XS.goto X2.here hx rfl (pc0 := 24) (pc' := 10) rfl (hb hby o114_24) (by decide) (by decide) ?_
    show oW p e below T2 (oF_fillD m 10 (oR pa) (oi 2) (oi 4) (od FP.dconst0) .second (oi 3) []) _
    refine XS.iload X2.here hx rfl (hb hby o114_10) rfl ?_
    show oW p e below T2 (oF_fillD m 12 (oR pa) (oi 2) (oi 4) (od FP.dconst0) .second (oi 3) [(.int 3)]) _
    refine XS.iloadN X2.here hx rfl (hb hby o114_12) rfl ?_
    show oW p e below T2 (oF_fillD m 13 (oR pa) (oi 2) (oi 4) (od FP.dconst0) .second (oi 3) [(.int 4), (.int 3)]) _
    refine XS.icmpNo X2.here hx rfl (hb hby o114_13) rfl (tlt (by decide : (3 : Int32) < (4 : Int32))).2.1 ?_
    show oW p e below T2 (oF_fillD m 16 (oR pa) (oi 2) (oi 4) (od FP.dconst0) .second (oi 3) []) _
    refine XS.aloadN X2.here hx rfl (hb hby o114_16) rfl rfl ?_
    show oW p e below T2 (oF_fillD m 17 (oR pa) (oi 2) (oi 4) (od FP.dconst0) .second (oi 3) [(.ref pa)]) _
    refine XS.iload X2.here hx rfl (hb hby o114_17) rfl ?_
    show oW p e below T2 (oF_fillD m 19 (oR pa) (oi 2) (oi 4) (od FP.dconst0) .second (oi 3) [(.int 3), (.ref pa)]) _
    refine XS.dloadN X2.here hx rfl (hb hby o114_19) rfl ?_
    exact k) ?_
  obtain ⟨T3, h3, X3, e3, W3, U3, st3⟩ := own_stD X2 hx hZ e2 V2 (j := (3 : Int32)) ⟨by decide, by decide⟩ 3 rfl (Nat.le_of_ble_eq_true rfl) (g := (oF_fillD m 20 (oR pa) (oi 2) (oi 4) (od FP.dconst0) .second (oi 3) [(.double FP.dconst0), (.int 3), (.ref pa)])) rfl rfl (hb hby o114_20)
  refine own_go st3 ?_
  have V3 : Arv Z h3 pa ck .double (4 : Int32) [(.double d0), (.double d1), (.double FP.dconst0), (.double FP.dconst0)] (.double 0) := U3
  have N3 := Fr.snoc X3 N2 g_pa
  have Z3 : n0 ≤ h3.size := Nat.le_trans Z2 (Keep.of_wr W3).1
  have K3 : Keep h0 h3 [pa] := K2.wr W3 (Or.inl (List.mem_of_getElem? (i := 0) rfl))
  refine own_go (A := oW p e below T3 (oF_fillD m 27 (oR pa) (oi 2) (oi 4) (od FP.dconst0) .second (oi 4) [])) (fun t k => by
    refine XS.iinc X3.here hx rfl (hb hby o114_21) rfl (l' := #[(oR pa), (oi 2), (oi 4), (od FP.dconst0), .second, (oi 4)]) rfl ?_
    show oW p e below T3 (oF_fillD m 24 (oR pa) (oi 2) (oi 4) (od FP.dconst0) .second (oi 4) []) _
    refine XS.goto X3.here hx rfl (pc0 := 24) (pc' := 10) rfl (hb hby o114_24) (by decide) (by decide) ?_
    show oW p e below T3 (oF_fillD m 10 (oR pa) (oi 2) (oi 4) (od FP.dconst0) .second (oi 4) []) _
    refine XS.iload X3.here hx rfl (hb hby o114_10) rfl ?_
    show oW p e below T3 (oF_fillD m 12 (oR pa) (oi 2) (oi 4) (od FP.dconst0) .second (oi 4) [(.int 4)]) _
    refine XS.iloadN X3.here hx rfl (hb hby o114_12) rfl ?_
    show oW p e below T3 (oF_fillD m 13 (oR pa) (oi 2) (oi 4) (od FP.dconst0) .second (oi 4) [(.int 4), (.int 4)]) _
    refine XS.icmpYes X3.here hx rfl (pc0 := 13) (pc' := 27) rfl (hb hby o114_13) rfl (flt (by decide : ¬ ((4 : Int32) < (4 : Int32)))).2.1 (by decide) (by decide) ?_
    exact k) ?_
  obtain ⟨fs, hr, hrun, hended, hW, hsame⟩ := X3.leave (v := none) (fun _ => rfl)
  refine ⟨_, _, X3.returnOut hx Bd.returns (hb hby o114_27) hr, hPf _ _ ⟨hrun, hended, _, _, rfl, ?_, ⟨_, rfl⟩, hW, hsame.mono (by decide) (by decide)⟩⟩
  show own_Q_fillD Z pa ck d0 d1 d2 d3 h0 n0 _ T3.heap _
  rw [e3]
  exact ⟨rfl, N3, K3, V3⟩
abbrev oF_times (m : MethodId) (pc : Nat) (a0 a1 a2 a3 a4 a5 a6 : Slot) (S : List Value) : JFrame := mkF m pc #[a0, a1, a2, a3, a4, a5, a6] S
theorem o211_0 : decode prog_72_method_11_code 0 = .ok (.iconst 0, 1) := by decide +kernel
theorem o211_1 : decode prog_72_method_11_code 1 = .ok (.istore_n 3, 1) := by decide +kernel
theorem o211_2 : decode prog_72_method_11_code 2 = .ok (.iload_n 3, 1) := by decide +kernel
theorem o211_3 : decode prog_72_method_11_code 3 = .ok (.aload_n 0, 1) := by decide +kernel
theorem o211_4 : decode prog_72_method_11_code 4 = .ok (.getfield 25, 3) := by decide +kernel
theorem o211_7 : decode prog_72_method_11_code 7 = .ok (.if_icmp .ge 54, 3) := by decide +kernel
theorem o211_10 : decode prog_72_method_11_code 10 = .ok (.dconst 0, 1) := by decide +kernel
theorem o211_11 : decode prog_72_method_11_code 11 = .ok (.dstore 4, 2) := by decide +kernel
theorem o211_13 : decode prog_72_method_11_code 13 = .ok (.iconst 0, 1) := by decide +kernel
theorem o211_14 : decode prog_72_method_11_code 14 = .ok (.istore 6, 2) := by decide +kernel
theorem o211_16 : decode prog_72_method_11_code 16 = .ok (.iload 6, 2) := by decide +kernel
theorem o211_18 : decode prog_72_method_11_code 18 = .ok (.aload_n 0, 1) := by decide +kernel
theorem o211_19 : decode prog_72_method_11_code 19 = .ok (.getfield 25, 3) := by decide +kernel
theorem o211_22 : decode prog_72_method_11_code 22 = .ok (.if_icmp .ge 28, 3) := by decide +kernel
theorem o211_25 : decode prog_72_method_11_code 25 = .ok (.dload 4, 2) := by decide +kernel
theorem o211_27 : decode prog_72_method_11_code 27 = .ok (.aload_n 0, 1) := by decide +kernel
theorem o211_28 : decode prog_72_method_11_code 28 = .ok (.getfield 41, 3) := by decide +kernel
theorem o211_31 : decode prog_72_method_11_code 31 = .ok (.iload_n 3, 1) := by decide +kernel
theorem o211_32 : decode prog_72_method_11_code 32 = .ok (.aaload, 1) := by decide +kernel
theorem o211_33 : decode prog_72_method_11_code 33 = .ok (.iload 6, 2) := by decide +kernel
theorem o211_35 : decode prog_72_method_11_code 35 = .ok (.daload, 1) := by decide +kernel
theorem o211_36 : decode prog_72_method_11_code 36 = .ok (.aload_n 1, 1) := by decide +kernel
theorem o211_37 : decode prog_72_method_11_code 37 = .ok (.iload 6, 2) := by decide +kernel
theorem o211_39 : decode prog_72_method_11_code 39 = .ok (.daload, 1) := by decide +kernel
theorem o211_40 : decode prog_72_method_11_code 40 = .ok (.dmul, 1) := by decide +kernel
theorem o211_41 : decode prog_72_method_11_code 41 = .ok (.dadd, 1) := by decide +kernel
theorem o211_42 : decode prog_72_method_11_code 42 = .ok (.dstore 4, 2) := by decide +kernel
theorem o211_44 : decode prog_72_method_11_code 44 = .ok (.iinc 6 1, 3) := by decide +kernel
theorem o211_47 : decode prog_72_method_11_code 47 = .ok (.goto (-31), 3) := by decide +kernel
theorem o211_50 : decode prog_72_method_11_code 50 = .ok (.aload_n 2, 1) := by decide +kernel
theorem o211_51 : decode prog_72_method_11_code 51 = .ok (.iload_n 3, 1) := by decide +kernel
theorem o211_52 : decode prog_72_method_11_code 52 = .ok (.dload 4, 2) := by decide +kernel
theorem o211_54 : decode prog_72_method_11_code 54 = .ok (.dastore, 1) := by decide +kernel
theorem o211_55 : decode prog_72_method_11_code 55 = .ok (.iinc 3 1, 3) := by decide +kernel
theorem o211_58 : decode prog_72_method_11_code 58 = .ok (.goto (-56), 3) := by decide +kernel
theorem o211_61 : decode prog_72_method_11_code 61 = .ok (.return_, 1) := by decide +kernel
theorem own_ef_times (m : MethodId) (x0 : Addr) (x1 : Addr) (x2 : Addr) : entryFrame m #[(.ref x0), (.ref x1), (.ref x2)] 7 = mkF m 0 #[(oR x0), (oR x1), (oR x2), .unset, .unset, .unset, .unset] [] := by first | (simp [entryFrame, mkF, argsToLocals, Value.category]; done) | rfl
def own_Q_times (Z : State) (sx : Addr) (li : Addr) (vl : Addr) (co y0 y1 cs bc ba iv i0 i1 el m0 m1 pb : Addr) (kiv ki0 ki1 kli kvl : ClassId) (q00 q01 q10 q11 dl dm z0 z1 : UInt64) (h0 : Heap) (n0 : Nat) (v : Option Value) (h : Heap) (L : List Loc) : Prop := v = none ∧ Fr n0 L ∧ Keep h0 h [vl] ∧ Arv Z h vl kvl .double (2 : Int32) [(.double (own_tot q00 q01 dl dm)), (.double (own_tot q10 q11 dl dm))] (.double 0)
theorem own_pn_com_example_composure_composure_select_Simplex : plainName "com/example/composure/composure/select/Simplex" = true := by first | (simp [plainName, overriddenIn]; done) | decide +kernel
set_option maxRecDepth 65536 in
set_option maxHeartbeats 40000000 in
theorem own_rm_times (l : Launch) (Z : State) (a0 : Array Value) (hw : ∀ d ∈ tables_1, d.before a0 Z = true) (ws : List Jvm.Cond) (sx : Addr) (li : Addr) (vl : Addr) (co y0 y1 cs bc ba iv i0 i1 el m0 m1 pb : Addr) (kiv ki0 ki1 kli kvl : ClassId) (q00 q01 q10 q11 dl dm z0 z1 : UInt64) (h0 : Heap) (n0 : Nat) (Z0 : n0 ≤ h0.size) (hnd : ([sx, co, y0, y1, cs, bc, li, ba, iv, i0, i1, vl, el, m0, m1, pb] : List Addr).Nodup) (g_vl : n0 ≤ vl) (ok0 : own_ok q00 q01 dl dm) (ok1 : own_ok q10 q11 dl dm) (Gp0 : Exa Z h0 sx "com/example/composure/composure/select/Simplex") (Gp1 : Fld Z h0 sx "com/example/composure/composure/select/Simplex" "rows" "I" (.int 2)) (Gp2 : Fld Z h0 sx "com/example/composure/composure/select/Simplex" "inverse" "[[D" (.ref iv)) (Gp3 : Arv Z h0 iv kiv (.array .double) (2 : Int32) [(.ref i0), (.ref i1)] .null) (Gp4 : Arv Z h0 i0 ki0 .double (2 : Int32) [(.double q00), (.double q01)] (.double 0)) (Gp5 : Arv Z h0 i1 ki1 .double (2 : Int32) [(.double q10), (.double q11)] (.double 0)) (Gp6 : Arv Z h0 li kli .double (2 : Int32) [(.double dl), (.double dm)] (.double 0)) (Gp7 : Arv Z h0 vl kvl .double (2 : Int32) [(.double z0), (.double z1)] (.double 0)) :
    MetFree l (⟨"com/example/composure/composure/select/Simplex", "times", "([D[D)V"⟩ : MethodName) (head1 (Jvm.Cond.code (⟨"com/example/composure/composure/select/Simplex", "times", "([D[D)V"⟩ : MethodName) prog_72_method_11_code 7 none :: ws) ({ frames := 0, cells := 0, slots := 0, locals := 0 } : Room)) (fun a U => a = #[(.ref sx), (.ref li), (.ref vl)] ∧ Z.Warmed39 U.vm ∧ U.heap = h0) (fun _ _ _ _ _ => True) (fun _ U o U' => ∃ v L, o = .returned v ∧ own_Q_times Z sx li vl co y0 y1 cs bc ba iv i0 i1 el m0 m1 pb kiv ki0 ki1 kli kvl q00 q01 q10 q11 dl dm z0 z1 h0 n0 v U'.heap L ∧ FrameEnd U o U' L ({ frames := 0, cells := 0, slots := 0, locals := 0 } : Room).cells ({ frames := 0, cells := 0, slots := 0, locals := 0 } : Room).slots) := by
  refine MetFree.of_bodySF (plainFor_of_name own_pn_com_example_composure_composure_select_Simplex) hisR ?_
  intro p e s m args below meth c s₁ Bd hml0 hP hKq_
  obtain ⟨rfl, hZ, hh⟩ := hP
  have hx := Bd.exec
  have hby := Bd.bytes
  have hml : c.maxLocals = 7 := hml0
  have hown : s.vm.findClass "com/example/composure/composure/select/Simplex" = some m.cls := findClass_of_methodNamed Bd.named
  have hnm := (name_of_methodNamed Bd.named Bd.method).1
  have ow25 := hw _ (List.mem_of_getElem? (i := 25) rfl)
  have ow40 := hw _ (List.mem_of_getElem? (i := 40) rfl)
  have X0 : Stand p l e ({ frames := 0, cells := 0, slots := 0, locals := 0 } : Room) s m #[(.ref sx), (.ref li), (.ref vl)] below meth c s₁ [] 0 0 := Stand.of_body Bd
  have e0 : s₁.heap = h0 := by rw [← hh, Bd.state]; rfl
  have N0 := Fr.nil n0
  have pre0 : ∀ t, Steps p.tables e below (s₁.setTop (mkF m 0 #[(oR sx), (oR li), (oR vl), .unset, .unset, .unset, .unset] [])) t → Steps p.tables e below (s₁.setTop (entryFrame m #[(.ref sx), (.ref li), (.ref vl)] 7)) t := fun t k => castTop (own_ef_times m sx li vl) k
  refine own_go pre0 ?_
  refine own_abs ?_
  intro Pf hPf
  have nn_i0 : i0 ∉ ([vl] : List Addr) := (ninS (own_nd hnd (i := 9) (j := 11) rfl rfl (by decide)) nin0)
  have nn_i1 : i1 ∉ ([vl] : List Addr) := (ninS (own_nd hnd (i := 10) (j := 11) rfl rfl (by decide)) nin0)
  have nn_iv : iv ∉ ([vl] : List Addr) := (ninS (own_nd hnd (i := 8) (j := 11) rfl rfl (by decide)) nin0)
  have nn_li : li ∉ ([vl] : List Addr) := (ninS (own_nd hnd (i := 6) (j := 11) rfl rfl (by decide)) nin0)
  have nn_sx : sx ∉ ([vl] : List Addr) := (ninS (own_nd hnd (i := 0) (j := 11) rfl rfl (by decide)) nin0)
  refine own_go (A := oW p e below s₁ (oF_times m 4 (oR sx) (oR li) (oR vl) (oi 0) .unset .unset .unset [(.ref sx), (.int 0)])) (fun t k => by
    refine XS.iconst X0.here hx rfl (hb hby o211_0) ?_
    refine XS.istoreN X0.here hx rfl (hb hby o211_1) rfl (l' := #[(oR sx), (oR li), (oR vl), (oi 0), .unset, .unset, .unset]) rfl ?_
    refine XS.iloadN X0.here hx rfl (hb hby o211_2) rfl ?_
    refine XS.aloadN X0.here hx rfl (hb hby o211_3) rfl rfl ?_
    exact k) ?_
  obtain ⟨T1, X1, e1, st1⟩ := getF X0 hx hZ hown (host := "") (Or.inl ow25) Via.refl e0 Gp1 (g := (oF_times m 4 (oR sx) (oR li) (oR vl) (oi 0) .unset .unset .unset [(.ref sx), (.int 0)])) rfl rfl (hb hby o211_4)
  refine own_go st1 ?_
  refine own_go (A := oW p e below T1 (oF_times m 19 (oR sx) (oR li) (oR vl) (oi 0) (od FP.dconst0) .second (oi 0) [(.ref sx), (.int 0)])) (fun t k => by
    refine XS.icmpNo X1.here hx rfl (hb hby o211_7) rfl (tlt (by decide : (0 : Int32) < (2 : Int32))).2.1 ?_
    refine XS.dconst0 X1.here hx rfl (hb hby o211_10) rfl ?_
    refine XS.dstore X1.here hx rfl (hb hby o211_11) rfl (l' := #[(oR sx), (oR li), (oR vl), (oi 0), (od FP.dconst0), .second, .unset]) rfl ?_
    refine XS.iconst X1.here hx rfl (hb hby o211_13) ?_
    show oW p e below T1 (oF_times m 14 (oR sx) (oR li) (oR vl) (oi 0) (od FP.dconst0) .second .unset [(.int 0)]) _
    refine XS.istore X1.here hx rfl (hb hby o211_14) rfl (l' := #[(oR sx), (oR li), (oR vl), (oi 0), (od FP.dconst0), .second, (oi 0)]) rfl ?_
    refine XS.iload X1.here hx rfl (hb hby o211_16) rfl ?_
    refine XS.aloadN X1.here hx rfl (hb hby o211_18) rfl rfl ?_
    exact k) ?_
  obtain ⟨T2, X2, e2, st2⟩ := getF X1 hx hZ hown (host := "") (Or.inl ow25) Via.refl e1 Gp1 (g := (oF_times m 19 (oR sx) (oR li) (oR vl) (oi 0) (od FP.dconst0) .second (oi 0) [(.ref sx), (.int 0)])) rfl rfl (hb hby o211_19)
  refine own_go st2 ?_
  refine own_go (A := oW p e below T2 (oF_times m 28 (oR sx) (oR li) (oR vl) (oi 0) (od FP.dconst0) .second (oi 0) [(.ref sx), (.double FP.dconst0)])) (fun t k => by
    refine XS.icmpNo X2.here hx rfl (hb hby o211_22) rfl (tlt (by decide : (0 : Int32) < (2 : Int32))).2.1 ?_
    show oW p e below T2 (oF_times m 25 (oR sx) (oR li) (oR vl) (oi 0) (od FP.dconst0) .second (oi 0) []) _
    refine XS.dload X2.here hx rfl (hb hby o211_25) rfl ?_
    refine XS.aloadN X2.here hx rfl (hb hby o211_27) rfl rfl ?_
    exact k) ?_
  obtain ⟨T3, X3, e3, st3⟩ := getF X2 hx hZ hown (host := "") (Or.inl ow40) Via.refl e2 Gp2 (g := (oF_times m 28 (oR sx) (oR li) (oR vl) (oi 0) (od FP.dconst0) .second (oi 0) [(.ref sx), (.double FP.dconst0)])) rfl rfl (hb hby o211_28)
  refine own_go st3 ?_
  refine own_go (A := oW p e below T3 (oF_times m 19 (oR sx) (oR li) (oR vl) (oi 0) (od (FP.dadd FP.dconst0 (FP.dmul q00 dl))) .second (oi 1) [(.ref sx), (.int 1)])) (fun t k => by
    refine XS.iloadN X3.here hx rfl (hb hby o211_31) rfl ?_
    refine own_ldA X3 hx hZ e3 Gp3 ⟨by decide, by decide⟩ (v := (.ref i0)) rfl (g := (oF_times m 32 (oR sx) (oR li) (oR vl) (oi 0) (od FP.dconst0) .second (oi 0) [(.int 0), (.ref iv), (.double FP.dconst0)])) rfl rfl (hb hby o211_32) _ ?_
    show oW p e below T3 (oF_times m 33 (oR sx) (oR li) (oR vl) (oi 0) (od FP.dconst0) .second (oi 0) [(.ref i0), (.double FP.dconst0)]) _
    refine XS.iload X3.here hx rfl (hb hby o211_33) rfl ?_
    refine own_ldD X3 hx hZ e3 Gp4 ⟨by decide, by decide⟩ (v := (.double q00)) rfl (g := (oF_times m 35 (oR sx) (oR li) (oR vl) (oi 0) (od FP.dconst0) .second (oi 0) [(.int 0), (.ref i0), (.double FP.dconst0)])) rfl rfl (hb hby o211_35) _ ?_
    refine XS.aloadN X3.here hx rfl (hb hby o211_36) rfl rfl ?_
    refine XS.iload X3.here hx rfl (hb hby o211_37) rfl ?_
    show oW p e below T3 (oF_times m 39 (oR sx) (oR li) (oR vl) (oi 0) (od FP.dconst0) .second (oi 0) [(.int 0), (.ref li), (.double q00), (.double FP.dconst0)]) _
    refine own_ldD X3 hx hZ e3 Gp6 ⟨by decide, by decide⟩ (v := (.double dl)) rfl (g := (oF_times m 39 (oR sx) (oR li) (oR vl) (oi 0) (od FP.dconst0) .second (oi 0) [(.int 0), (.ref li), (.double q00), (.double FP.dconst0)])) rfl rfl (hb hby o211_39) _ ?_
    refine XS.dmulS X3.here hx rfl (hb hby o211_40) rfl ok0.1 rfl ?_
    refine XS.daddS X3.here hx rfl (hb hby o211_41) rfl ok0.2.1 rfl ?_
    refine XS.dstore X3.here hx rfl (hb hby o211_42) rfl (l' := #[(oR sx), (oR li), (oR vl), (oi 0), (od (FP.dadd FP.dconst0 (FP.dmul q00 dl))), .second, (oi 0)]) rfl ?_
    show oW p e below T3 (oF_times m 44 (oR sx) (oR li) (oR vl) (oi 0) (od (FP.dadd FP.dconst0 (FP.dmul q00 dl))) .second (oi 0) []) _
    refine XS.iinc X3.here hx rfl (hb hby o211_44) rfl (l' := #[(oR sx), (oR li), (oR vl), (oi 0), (od (FP.dadd FP.dconst0 (FP.dmul q00 dl))), .second, (oi 1)]) rfl ?_
    refine XS.goto X3.here hx rfl (pc0 := 47) (pc' := 16) rfl (hb hby o211_47) (by decide) (by decide) ?_
    refine XS.iload X3.here hx rfl (hb hby o211_16) rfl ?_
    refine XS.aloadN X3.here hx rfl (hb hby o211_18) rfl rfl ?_
    exact k) ?_
  obtain ⟨T4, X4, e4, st4⟩ := getF X3 hx hZ hown (host := "") (Or.inl ow25) Via.refl e3 Gp1 (g := (oF_times m 19 (oR sx) (oR li) (oR vl) (oi 0) (od (FP.dadd FP.dconst0 (FP.dmul q00 dl))) .second (oi 1) [(.ref sx), (.int 1)])) rfl rfl (hb hby o211_19)
  refine own_go st4 ?_
  refine own_go (A := oW p e below T4 (oF_times m 28 (oR sx) (oR li) (oR vl) (oi 0) (od (FP.dadd FP.dconst0 (FP.dmul q00 dl))) .second (oi 1) [(.ref sx), (.double (FP.dadd FP.dconst0 (FP.dmul q00 dl)))])) (fun t k => by
    refine XS.icmpNo X4.here hx rfl (hb hby o211_22) rfl (tlt (by decide : (1 : Int32) < (2 : Int32))).2.1 ?_
    refine XS.dload X4.here hx rfl (hb hby o211_25) rfl ?_
    refine XS.aloadN X4.here hx rfl (hb hby o211_27) rfl rfl ?_
    exact k) ?_
  obtain ⟨T5, X5, e5, st5⟩ := getF X4 hx hZ hown (host := "") (Or.inl ow40) Via.refl e4 Gp2 (g := (oF_times m 28 (oR sx) (oR li) (oR vl) (oi 0) (od (FP.dadd FP.dconst0 (FP.dmul q00 dl))) .second (oi 1) [(.ref sx), (.double (FP.dadd FP.dconst0 (FP.dmul q00 dl)))])) rfl rfl (hb hby o211_28)
  refine own_go st5 ?_
  refine own_go (A := oW p e below T5 (oF_times m 19 (oR sx) (oR li) (oR vl) (oi 0) (od (FP.dadd (FP.dadd FP.dconst0 (FP.dmul q00 dl)) (FP.dmul q01 dm))) .second (oi 2) [(.ref sx), (.int 2)])) (fun t k => by
    refine XS.iloadN X5.here hx rfl (hb hby o211_31) rfl ?_
    show oW p e below T5 (oF_times m 32 (oR sx) (oR li) (oR vl) (oi 0) (od (FP.dadd FP.dconst0 (FP.dmul q00 dl))) .second (oi 1) [(.int 0), (.ref iv), (.double (FP.dadd FP.dconst0 (FP.dmul q00 dl)))]) _
    refine own_ldA X5 hx hZ e5 Gp3 ⟨by decide, by decide⟩ (v := (.ref i0)) rfl (g := (oF_times m 32 (oR sx) (oR li) (oR vl) (oi 0) (od (FP.dadd FP.dconst0 (FP.dmul q00 dl))) .second (oi 1) [(.int 0), (.ref iv), (.double (FP.dadd FP.dconst0 (FP.dmul q00 dl)))])) rfl rfl (hb hby o211_32) _ ?_
    refine XS.iload X5.here hx rfl (hb hby o211_33) rfl ?_
    refine own_ldD X5 hx hZ e5 Gp4 ⟨by decide, by decide⟩ (v := (.double q01)) rfl (g := (oF_times m 35 (oR sx) (oR li) (oR vl) (oi 0) (od (FP.dadd FP.dconst0 (FP.dmul q00 dl))) .second (oi 1) [(.int 1), (.ref i0), (.double (FP.dadd FP.dconst0 (FP.dmul q00 dl)))])) rfl rfl (hb hby o211_35) _ ?_
    refine XS.aloadN X5.here hx rfl (hb hby o211_36) rfl rfl ?_
    show oW p e below T5 (oF_times m 37 (oR sx) (oR li) (oR vl) (oi 0) (od (FP.dadd FP.dconst0 (FP.dmul q00 dl))) .second (oi 1) [(.ref li), (.double q01), (.double (FP.dadd FP.dconst0 (FP.dmul q00 dl)))]) _
    refine XS.iload X5.here hx rfl (hb hby o211_37) rfl ?_
    refine own_ldD X5 hx hZ e5 Gp6 ⟨by decide, by decide⟩ (v := (.double dm)) rfl (g := (oF_times m 39 (oR sx) (oR li) (oR vl) (oi 0) (od (FP.dadd FP.dconst0 (FP.dmul q00 dl))) .second (oi 1) [(.int 1), (.ref li), (.double q01), (.double (FP.dadd FP.dconst0 (FP.dmul q00 dl)))])) rfl rfl (hb hby o211_39) _ ?_
    refine XS.dmulS X5.here hx rfl (hb hby o211_40) rfl ok0.2.2.1 rfl ?_
    refine XS.daddS X5.here hx rfl (hb hby o211_41) rfl ok0.2.2.2 rfl ?_
    show oW p e below T5 (oF_times m 42 (oR sx) (oR li) (oR vl) (oi 0) (od (FP.dadd FP.dconst0 (FP.dmul q00 dl))) .second (oi 1) [(.double (FP.dadd (FP.dadd FP.dconst0 (FP.dmul q00 dl)) (FP.dmul q01 dm)))]) _
    refine XS.dstore X5.here hx rfl (hb hby o211_42) rfl (l' := #[(oR sx), (oR li), (oR vl), (oi 0), (od (FP.dadd (FP.dadd FP.dconst0 (FP.dmul q00 dl)) (FP.dmul q01 dm))), .second, (oi 1)]) rfl ?_
    refine XS.iinc X5.here hx rfl (hb hby o211_44) rfl (l' := #[(oR sx), (oR li), (oR vl), (oi 0), (od (FP.dadd (FP.dadd FP.dconst0 (FP.dmul q00 dl)) (FP.dmul q01 dm))), .second, (oi 2)]) rfl ?_
    refine XS.goto X5.here hx rfl (pc0 := 47) (pc' := 16) rfl (hb hby o211_47) (by decide) (by decide) ?_
    refine XS.iload X5.here hx rfl (hb hby o211_16) rfl ?_
    show oW p e below T5 (oF_times m 18 (oR sx) (oR li) (oR vl) (oi 0) (od (FP.dadd (FP.dadd FP.dconst0 (FP.dmul q00 dl)) (FP.dmul q01 dm))) .second (oi 2) [(.int 2)]) _
    refine XS.aloadN X5.here hx rfl (hb hby o211_18) rfl rfl ?_
    exact k) ?_
  obtain ⟨T6, X6, e6, st6⟩ := getF X5 hx hZ hown (host := "") (Or.inl ow25) Via.refl e5 Gp1 (g := (oF_times m 19 (oR sx) (oR li) (oR vl) (oi 0) (od (FP.dadd (FP.dadd FP.dconst0 (FP.dmul q00 dl)) (FP.dmul q01 dm))) .second (oi 2) [(.ref sx), (.int 2)])) rfl rfl (hb hby o211_19)
  refine own_go st6 ?_
  refine own_go (A := oW p e below T6 (oF_times m 54 (oR sx) (oR li) (oR vl) (oi 0) (od (FP.dadd (FP.dadd FP.dconst0 (FP.dmul q00 dl)) (FP.dmul q01 dm))) .second (oi 2) [(.double (FP.dadd (FP.dadd FP.dconst0 (FP.dmul q00 dl)) (FP.dmul q01 dm))), (.int 0), (.ref vl)])) (fun t k => by
    refine XS.icmpYes X6.here hx rfl (pc0 := 22) (pc' := 50) rfl (hb hby o211_22) rfl (flt (by decide : ¬ ((2 : Int32) < (2 : Int32)))).2.1 (by decide) (by decide) ?_
    refine XS.aloadN X6.here hx rfl (hb hby o211_50) rfl rfl ?_
    refine XS.iloadN X6.here hx rfl (hb hby o211_51) rfl ?_
    show oW p e below T6 (oF_times m 52 (oR sx) (oR li) (oR vl) (oi 0) (od (FP.dadd (FP.dadd FP.dconst0 (FP.dmul q00 dl)) (FP.dmul q01 dm))) .second (oi 2) [(.int 0), (.ref vl)]) _
    refine XS.dload X6.here hx rfl (hb hby o211_52) rfl ?_
    exact k) ?_
  obtain ⟨T7, h7, X7, e7, W7, U7, st7⟩ := own_stD X6 hx hZ e6 Gp7 (j := (0 : Int32)) ⟨by decide, by decide⟩ 0 rfl (Nat.le_of_ble_eq_true rfl) (g := (oF_times m 54 (oR sx) (oR li) (oR vl) (oi 0) (od (FP.dadd (FP.dadd FP.dconst0 (FP.dmul q00 dl)) (FP.dmul q01 dm))) .second (oi 2) [(.double (FP.dadd (FP.dadd FP.dconst0 (FP.dmul q00 dl)) (FP.dmul q01 dm))), (.int 0), (.ref vl)])) rfl rfl (hb hby o211_54)
  refine own_go st7 ?_
  have V7 : Arv Z h7 vl kvl .double (2 : Int32) [(.double (FP.dadd (FP.dadd FP.dconst0 (FP.dmul q00 dl)) (FP.dmul q01 dm))), (.double z1)] (.double 0) := U7
  have N7 := Fr.snoc X7 N0 g_vl
  have Z7 : n0 ≤ h7.size := Nat.le_trans Z0 (Keep.of_wr W7).1
  have K7 : Keep h0 h7 [vl] := (Keep.refl h0 [vl]).wr W7 (Or.inl (List.mem_of_getElem? (i := 0) rfl))
  refine own_go (A := oW p e below T7 (oF_times m 4 (oR sx) (oR li) (oR vl) (oi 1) (od (FP.dadd (FP.dadd FP.dconst0 (FP.dmul q00 dl)) (FP.dmul q01 dm))) .second (oi 2) [(.ref sx), (.int 1)])) (fun t k => by
    refine XS.iinc X7.here hx rfl (hb hby o211_55) rfl (l' := #[(oR sx), (oR li), (oR vl), (oi 1), (od (FP.dadd (FP.dadd FP.dconst0 (FP.dmul q00 dl)) (FP.dmul q01 dm))), .second, (oi 2)]) rfl ?_
    refine XS.goto X7.here hx rfl (pc0 := 58) (pc' := 2) rfl (hb hby o211_58) (by decide) (by decide) ?_
    refine XS.iloadN X7.here hx rfl (hb hby o211_2) rfl ?_
    show oW p e below T7 (oF_times m 3 (oR sx) (oR li) (oR vl) (oi 1) (od (FP.dadd (FP.dadd FP.dconst0 (FP.dmul q00 dl)) (FP.dmul q01 dm))) .second (oi 2) [(.int 1)]) _
    refine XS.aloadN X7.here hx rfl (hb hby o211_3) rfl rfl ?_
    exact k) ?_
  obtain ⟨T8, X8, e8, st8⟩ := getF X7 hx hZ hown (host := "") (Or.inl ow25) Via.refl e7 (Gp1.keep K7 nn_sx) (g := (oF_times m 4 (oR sx) (oR li) (oR vl) (oi 1) (od (FP.dadd (FP.dadd FP.dconst0 (FP.dmul q00 dl)) (FP.dmul q01 dm))) .second (oi 2) [(.ref sx), (.int 1)])) rfl rfl (hb hby o211_4)
  refine own_go st8 ?_
  refine own_go (A := oW p e below T8 (oF_times m 19 (oR sx) (oR li) (oR vl) (oi 1) (od FP.dconst0) .second (oi 0) [(.ref sx), (.int 0)])) (fun t k => by
    refine XS.icmpNo X8.here hx rfl (hb hby o211_7) rfl (tlt (by decide : (1 : Int32) < (2 : Int32))).2.1 ?_
    refine XS.dconst0 X8.here hx rfl (hb hby o211_10) rfl ?_
    refine XS.dstore X8.here hx rfl (hb hby o211_11) rfl (l' := #[(oR sx), (oR li), (oR vl), (oi 1), (od FP.dconst0), .second, (oi 2)]) rfl ?_
    show oW p e below T8 (oF_times m 13 (oR sx) (oR li) (oR vl) (oi 1) (od FP.dconst0) .second (oi 2) []) _
    refine XS.iconst X8.here hx rfl (hb hby o211_13) ?_
    refine XS.istore X8.here hx rfl (hb hby o211_14) rfl (l' := #[(oR sx), (oR li), (oR vl), (oi 1), (od FP.dconst0), .second, (oi 0)]) rfl ?_
    refine XS.iload X8.here hx rfl (hb hby o211_16) rfl ?_
    refine XS.aloadN X8.here hx rfl (hb hby o211_18) rfl rfl ?_
    exact k) ?_
  obtain ⟨T9, X9, e9, st9⟩ := getF X8 hx hZ hown (host := "") (Or.inl ow25) Via.refl e8 (Gp1.keep K7 nn_sx) (g := (oF_times m 19 (oR sx) (oR li) (oR vl) (oi 1) (od FP.dconst0) .second (oi 0) [(.ref sx), (.int 0)])) rfl rfl (hb hby o211_19)
  refine own_go st9 ?_
  refine own_go (A := oW p e below T9 (oF_times m 28 (oR sx) (oR li) (oR vl) (oi 1) (od FP.dconst0) .second (oi 0) [(.ref sx), (.double FP.dconst0)])) (fun t k => by
    refine XS.icmpNo X9.here hx rfl (hb hby o211_22) rfl (tlt (by decide : (0 : Int32) < (2 : Int32))).2.1 ?_
    refine XS.dload X9.here hx rfl (hb hby o211_25) rfl ?_
    refine XS.aloadN X9.here hx rfl (hb hby o211_27) rfl rfl ?_
    exact k) ?_
  obtain ⟨T10, X10, e10, st10⟩ := getF X9 hx hZ hown (host := "") (Or.inl ow40) Via.refl e9 (Gp2.keep K7 nn_sx) (g := (oF_times m 28 (oR sx) (oR li) (oR vl) (oi 1) (od FP.dconst0) .second (oi 0) [(.ref sx), (.double FP.dconst0)])) rfl rfl (hb hby o211_28)
  refine own_go st10 ?_
  refine own_go (A := oW p e below T10 (oF_times m 19 (oR sx) (oR li) (oR vl) (oi 1) (od (FP.dadd FP.dconst0 (FP.dmul q10 dl))) .second (oi 1) [(.ref sx), (.int 1)])) (fun t k => by
    refine XS.iloadN X10.here hx rfl (hb hby o211_31) rfl ?_
    show oW p e below T10 (oF_times m 32 (oR sx) (oR li) (oR vl) (oi 1) (od FP.dconst0) .second (oi 0) [(.int 1), (.ref iv), (.double FP.dconst0)]) _
    refine own_ldA X10 hx hZ e10 (Gp3.keep K7 nn_iv) ⟨by decide, by decide⟩ (v := (.ref i1)) rfl (g := (oF_times m 32 (oR sx) (oR li) (oR vl) (oi 1) (od FP.dconst0) .second (oi 0) [(.int 1), (.ref iv), (.double FP.dconst0)])) rfl rfl (hb hby o211_32) _ ?_
    refine XS.iload X10.here hx rfl (hb hby o211_33) rfl ?_
    refine own_ldD X10 hx hZ e10 (Gp5.keep K7 nn_i1) ⟨by decide, by decide⟩ (v := (.double q10)) rfl (g := (oF_times m 35 (oR sx) (oR li) (oR vl) (oi 1) (od FP.dconst0) .second (oi 0) [(.int 0), (.ref i1), (.double FP.dconst0)])) rfl rfl (hb hby o211_35) _ ?_
    refine XS.aloadN X10.here hx rfl (hb hby o211_36) rfl rfl ?_
    show oW p e below T10 (oF_times m 37 (oR sx) (oR li) (oR vl) (oi 1) (od FP.dconst0) .second (oi 0) [(.ref li), (.double q10), (.double FP.dconst0)]) _
    refine XS.iload X10.here hx rfl (hb hby o211_37) rfl ?_
    refine own_ldD X10 hx hZ e10 (Gp6.keep K7 nn_li) ⟨by decide, by decide⟩ (v := (.double dl)) rfl (g := (oF_times m 39 (oR sx) (oR li) (oR vl) (oi 1) (od FP.dconst0) .second (oi 0) [(.int 0), (.ref li), (.double q10), (.double FP.dconst0)])) rfl rfl (hb hby o211_39) _ ?_
    refine XS.dmulS X10.here hx rfl (hb hby o211_40) rfl ok1.1 rfl ?_
    refine XS.daddS X10.here hx rfl (hb hby o211_41) rfl ok1.2.1 rfl ?_
    show oW p e below T10 (oF_times m 42 (oR sx) (oR li) (oR vl) (oi 1) (od FP.dconst0) .second (oi 0) [(.double (FP.dadd FP.dconst0 (FP.dmul q10 dl)))]) _
    refine XS.dstore X10.here hx rfl (hb hby o211_42) rfl (l' := #[(oR sx), (oR li), (oR vl), (oi 1), (od (FP.dadd FP.dconst0 (FP.dmul q10 dl))), .second, (oi 0)]) rfl ?_
    refine XS.iinc X10.here hx rfl (hb hby o211_44) rfl (l' := #[(oR sx), (oR li), (oR vl), (oi 1), (od (FP.dadd FP.dconst0 (FP.dmul q10 dl))), .second, (oi 1)]) rfl ?_
    refine XS.goto X10.here hx rfl (pc0 := 47) (pc' := 16) rfl (hb hby o211_47) (by decide) (by decide) ?_
    refine XS.iload X10.here hx rfl (hb hby o211_16) rfl ?_
    show oW p e below T10 (oF_times m 18 (oR sx) (oR li) (oR vl) (oi 1) (od (FP.dadd FP.dconst0 (FP.dmul q10 dl))) .second (oi 1) [(.int 1)]) _
    refine XS.aloadN X10.here hx rfl (hb hby o211_18) rfl rfl ?_
    exact k) ?_
  obtain ⟨T11, X11, e11, st11⟩ := getF X10 hx hZ hown (host := "") (Or.inl ow25) Via.refl e10 (Gp1.keep K7 nn_sx) (g := (oF_times m 19 (oR sx) (oR li) (oR vl) (oi 1) (od (FP.dadd FP.dconst0 (FP.dmul q10 dl))) .second (oi 1) [(.ref sx), (.int 1)])) rfl rfl (hb hby o211_19)
  refine own_go st11 ?_
  refine own_go (A := oW p e below T11 (oF_times m 28 (oR sx) (oR li) (oR vl) (oi 1) (od (FP.dadd FP.dconst0 (FP.dmul q10 dl))) .second (oi 1) [(.ref sx), (.double (FP.dadd FP.dconst0 (FP.dmul q10 dl)))])) (fun t k => by
    refine XS.icmpNo X11.here hx rfl (hb hby o211_22) rfl (tlt (by decide : (1 : Int32) < (2 : Int32))).2.1 ?_
    refine XS.dload X11.here hx rfl (hb hby o211_25) rfl ?_
    refine XS.aloadN X11.here hx rfl (hb hby o211_27) rfl rfl ?_
    exact k) ?_
  obtain ⟨T12, X12, e12, st12⟩ := getF X11 hx hZ hown (host := "") (Or.inl ow40) Via.refl e11 (Gp2.keep K7 nn_sx) (g := (oF_times m 28 (oR sx) (oR li) (oR vl) (oi 1) (od (FP.dadd FP.dconst0 (FP.dmul q10 dl))) .second (oi 1) [(.ref sx), (.double (FP.dadd FP.dconst0 (FP.dmul q10 dl)))])) rfl rfl (hb hby o211_28)
  refine own_go st12 ?_
  refine own_go (A := oW p e below T12 (oF_times m 19 (oR sx) (oR li) (oR vl) (oi 1) (od (FP.dadd (FP.dadd FP.dconst0 (FP.dmul q10 dl)) (FP.dmul q11 dm))) .second (oi 2) [(.ref sx), (.int 2)])) (fun t k => by
    refine XS.iloadN X12.here hx rfl (hb hby o211_31) rfl ?_
    refine own_ldA X12 hx hZ e12 (Gp3.keep K7 nn_iv) ⟨by decide, by decide⟩ (v := (.ref i1)) rfl (g := (oF_times m 32 (oR sx) (oR li) (oR vl) (oi 1) (od (FP.dadd FP.dconst0 (FP.dmul q10 dl))) .second (oi 1) [(.int 1), (.ref iv), (.double (FP.dadd FP.dconst0 (FP.dmul q10 dl)))])) rfl rfl (hb hby o211_32) _ ?_
    refine XS.iload X12.here hx rfl (hb hby o211_33) rfl ?_
    refine own_ldD X12 hx hZ e12 (Gp5.keep K7 nn_i1) ⟨by decide, by decide⟩ (v := (.double q11)) rfl (g := (oF_times m 35 (oR sx) (oR li) (oR vl) (oi 1) (od (FP.dadd FP.dconst0 (FP.dmul q10 dl))) .second (oi 1) [(.int 1), (.ref i1), (.double (FP.dadd FP.dconst0 (FP.dmul q10 dl)))])) rfl rfl (hb hby o211_35) _ ?_
    show oW p e below T12 (oF_times m 36 (oR sx) (oR li) (oR vl) (oi 1) (od (FP.dadd FP.dconst0 (FP.dmul q10 dl))) .second (oi 1) [(.double q11), (.double (FP.dadd FP.dconst0 (FP.dmul q10 dl)))]) _
    refine XS.aloadN X12.here hx rfl (hb hby o211_36) rfl rfl ?_
    refine XS.iload X12.here hx rfl (hb hby o211_37) rfl ?_
    refine own_ldD X12 hx hZ e12 (Gp6.keep K7 nn_li) ⟨by decide, by decide⟩ (v := (.double dm)) rfl (g := (oF_times m 39 (oR sx) (oR li) (oR vl) (oi 1) (od (FP.dadd FP.dconst0 (FP.dmul q10 dl))) .second (oi 1) [(.int 1), (.ref li), (.double q11), (.double (FP.dadd FP.dconst0 (FP.dmul q10 dl)))])) rfl rfl (hb hby o211_39) _ ?_
    refine XS.dmulS X12.here hx rfl (hb hby o211_40) rfl ok1.2.2.1 rfl ?_
    show oW p e below T12 (oF_times m 41 (oR sx) (oR li) (oR vl) (oi 1) (od (FP.dadd FP.dconst0 (FP.dmul q10 dl))) .second (oi 1) [(.double (FP.dmul q11 dm)), (.double (FP.dadd FP.dconst0 (FP.dmul q10 dl)))]) _
    refine XS.daddS X12.here hx rfl (hb hby o211_41) rfl ok1.2.2.2 rfl ?_
    refine XS.dstore X12.here hx rfl (hb hby o211_42) rfl (l' := #[(oR sx), (oR li), (oR vl), (oi 1), (od (FP.dadd (FP.dadd FP.dconst0 (FP.dmul q10 dl)) (FP.dmul q11 dm))), .second, (oi 1)]) rfl ?_
    refine XS.iinc X12.here hx rfl (hb hby o211_44) rfl (l' := #[(oR sx), (oR li), (oR vl), (oi 1), (od (FP.dadd (FP.dadd FP.dconst0 (FP.dmul q10 dl)) (FP.dmul q11 dm))), .second, (oi 2)]) rfl ?_
    refine XS.goto X12.here hx rfl (pc0 := 47) (pc' := 16) rfl (hb hby o211_47) (by decide) (by decide) ?_
    show oW p e below T12 (oF_times m 16 (oR sx) (oR li) (oR vl) (oi 1) (od (FP.dadd (FP.dadd FP.dconst0 (FP.dmul q10 dl)) (FP.dmul q11 dm))) .second (oi 2) []) _
    refine XS.iload X12.here hx rfl (hb hby o211_16) rfl ?_
    refine XS.aloadN X12.here hx rfl (hb hby o211_18) rfl rfl ?_
    exact k) ?_
  obtain ⟨T13, X13, e13, st13⟩ := getF X12 hx hZ hown (host := "") (Or.inl ow25) Via.refl e12 (Gp1.keep K7 nn_sx) (g := (oF_times m 19 (oR sx) (oR li) (oR vl) (oi 1) (od (FP.dadd (FP.dadd FP.dconst0 (FP.dmul q10 dl)) (FP.dmul q11 dm))) .second (oi 2) [(.ref sx), (.int 2)])) rfl rfl (hb hby o211_19)
  refine own_go st13 ?_
  refine own_go (A := oW p e below T13 (oF_times m 54 (oR sx) (oR li) (oR vl) (oi 1) (od (FP.dadd (FP.dadd FP.dconst0 (FP.dmul q10 dl)) (FP.dmul q11 dm))) .second (oi 2) [(.double (FP.dadd (FP.dadd FP.dconst0 (FP.dmul q10 dl)) (FP.dmul q11 dm))), (.int 1), (.ref vl)])) (fun t k => by
    refine XS.icmpYes X13.here hx rfl (pc0 := 22) (pc' := 50) rfl (hb hby o211_22) rfl (flt (by decide : ¬ ((2 : Int32) < (2 : Int32)))).2.1 (by decide) (by decide) ?_
    refine XS.aloadN X13.here hx rfl (hb hby o211_50) rfl rfl ?_
    show oW p e below T13 (oF_times m 51 (oR sx) (oR li) (oR vl) (oi 1) (od (FP.dadd (FP.dadd FP.dconst0 (FP.dmul q10 dl)) (FP.dmul q11 dm))) .second (oi 2) [(.ref vl)]) _
    refine XS.iloadN X13.here hx rfl (hb hby o211_51) rfl ?_
    refine XS.dload X13.here hx rfl (hb hby o211_52) rfl ?_
    exact k) ?_
  obtain ⟨T14, h14, X14, e14, W14, U14, st14⟩ := own_stD X13 hx hZ e13 V7 (j := (1 : Int32)) ⟨by decide, by decide⟩ 1 rfl (Nat.le_of_ble_eq_true rfl) (g := (oF_times m 54 (oR sx) (oR li) (oR vl) (oi 1) (od (FP.dadd (FP.dadd FP.dconst0 (FP.dmul q10 dl)) (FP.dmul q11 dm))) .second (oi 2) [(.double (FP.dadd (FP.dadd FP.dconst0 (FP.dmul q10 dl)) (FP.dmul q11 dm))), (.int 1), (.ref vl)])) rfl rfl (hb hby o211_54)
  refine own_go st14 ?_
  have V14 : Arv Z h14 vl kvl .double (2 : Int32) [(.double (FP.dadd (FP.dadd FP.dconst0 (FP.dmul q00 dl)) (FP.dmul q01 dm))), (.double (FP.dadd (FP.dadd FP.dconst0 (FP.dmul q10 dl)) (FP.dmul q11 dm)))] (.double 0) := U14
  have N14 := Fr.snoc X14 N7 g_vl
  have Z14 : n0 ≤ h14.size := Nat.le_trans Z7 (Keep.of_wr W14).1
  have K14 : Keep h0 h14 [vl] := K7.wr W14 (Or.inl (List.mem_of_getElem? (i := 0) rfl))
  refine own_go (A := oW p e below T14 (oF_times m 4 (oR sx) (oR li) (oR vl) (oi 2) (od (FP.dadd (FP.dadd FP.dconst0 (FP.dmul q10 dl)) (FP.dmul q11 dm))) .second (oi 2) [(.ref sx), (.int 2)])) (fun t k => by
    refine XS.iinc X14.here hx rfl (hb hby o211_55) rfl (l' := #[(oR sx), (oR li), (oR vl), (oi 2), (od (FP.dadd (FP.dadd FP.dconst0 (FP.dmul q10 dl)) (FP.dmul q11 dm))), .second, (oi 2)]) rfl ?_
    refine XS.goto X14.here hx rfl (pc0 := 58) (pc' := 2) rfl (hb hby o211_58) (by decide) (by decide) ?_
    show oW p e below T14 (oF_times m 2 (oR sx) (oR li) (oR vl) (oi 2) (od (FP.dadd (FP.dadd FP.dconst0 (FP.dmul q10 dl)) (FP.dmul q11 dm))) .second (oi 2) []) _
    refine XS.iloadN X14.here hx rfl (hb hby o211_2) rfl ?_
    refine XS.aloadN X14.here hx rfl (hb hby o211_3) rfl rfl ?_
    exact k) ?_
  obtain ⟨T15, X15, e15, st15⟩ := getF X14 hx hZ hown (host := "") (Or.inl ow25) Via.refl e14 (Gp1.keep K14 nn_sx) (g := (oF_times m 4 (oR sx) (oR li) (oR vl) (oi 2) (od (FP.dadd (FP.dadd FP.dconst0 (FP.dmul q10 dl)) (FP.dmul q11 dm))) .second (oi 2) [(.ref sx), (.int 2)])) rfl rfl (hb hby o211_4)
  refine own_go st15 ?_
  refine own_go (A := oW p e below T15 (oF_times m 61 (oR sx) (oR li) (oR vl) (oi 2) (od (FP.dadd (FP.dadd FP.dconst0 (FP.dmul q10 dl)) (FP.dmul q11 dm))) .second (oi 2) [])) (fun t k => by
    refine XS.icmpYes X15.here hx rfl (pc0 := 7) (pc' := 61) rfl (hb hby o211_7) rfl (flt (by decide : ¬ ((2 : Int32) < (2 : Int32)))).2.1 (by decide) (by decide) ?_
    exact k) ?_
  obtain ⟨fs, hr, hrun, hended, hW, hsame⟩ := X15.leave (v := none) (fun _ => rfl)
  refine ⟨_, _, X15.returnOut hx Bd.returns (hb hby o211_61) hr, hPf _ _ ⟨hrun, hended, _, _, rfl, ?_, ⟨_, rfl⟩, hW, hsame.mono (by decide) (by decide)⟩⟩
  show own_Q_times Z sx li vl co y0 y1 cs bc ba iv i0 i1 el m0 m1 pb kiv ki0 ki1 kli kvl q00 q01 q10 q11 dl dm z0 z1 h0 n0 _ T15.heap _
  rw [e15]
  exact ⟨rfl, N14, K14, V14⟩
theorem own_S0 : own_S FP.dconst0 (0 * 2 ^ (1074 - 3)) := ⟨false, 0, -1074, by decide +kernel, by decide +kernel⟩
theorem own_S0' : own_S (0 : UInt64) (0 * 2 ^ (1074 - 3)) := own_S0
theorem own_S1 : own_S (4607182418800017408 : UInt64) (8 * 2 ^ (1074 - 3)) := ⟨false, 2 ^ 52, -52, by decide +kernel, by decide +kernel⟩
theorem own_pp : (2 : Int) ^ (1074 - 3) * 2 ^ 1074 = 2 ^ (2148 - 3) := (Int.pow_add 2 (1074 - 3) 1074).symm.trans (congrArg (fun n => (2 : Int) ^ n) (by decide))
theorem own_p8 : (2 : Int) ^ 1074 = 8 * 2 ^ (1074 - 3) := by
  have h : (2 : Int) ^ 1074 = 2 ^ (3 + (1074 - 3)) := congrArg (fun n => (2 : Int) ^ n) (by decide)
  rw [h, Int.pow_add]; congr 1
theorem own_u (a b P Q R : Int) (h : P * Q = R) : a * P * (b * Q) = a * b * R := by rw [← h]; ac_rfl
theorem own_u' (a b P Q R : Int) (h : P * Q = R) : a * Q * (b * P) = a * b * R := by rw [← h]; ac_rfl
theorem own_totS {a b e f : UInt64} {ua ub ue uf n1 n2 : Int} (ha : own_S a ua) (hb : own_S b ub) (he : own_S e ue) (hf : own_S f uf) (h1 : ua * ue = n1 * 2 ^ (2148 - 3)) (h2 : ub * uf = n2 * 2 ^ (2148 - 3))
    (b1 : n1.natAbs < 9007199254740992) (b2 : n2.natAbs < 9007199254740992) (b3 : (n1 + n2).natAbs < 9007199254740992) : own_ok a b e f ∧ own_S (own_tot a b e f) ((n1 + n2) * 2 ^ (1074 - 3)) := by
  have q1 := own_mulS ha he b1 (k := 3) (by decide) h1
  have q2 := own_addS own_S0 q1 (n := n1) (k := 3) b1 (by decide) (by rw [Int.zero_mul, Int.zero_add])
  have q3 := own_mulS hb hf b2 (k := 3) (by decide) h2
  have q4 := own_addS q2 q3 (n := n1 + n2) (k := 3) b3 (by decide) (Int.add_mul _ _ _).symm
  exact ⟨⟨own_Snn q1, own_Snn q2, own_Snn q3, own_Snn q4⟩, q4⟩
theorem own_neg : ∃ w : Int, own_S (13695778570484766357 : UInt64) w ∧ w < 0 := ⟨_, ⟨true, 4835703278458517, -82, by decide +kernel, rfl⟩, by decide +kernel⟩
theorem own_geS {v : UInt64} {n : Int} (h : own_S v (n * 2 ^ (1074 - 3))) (hn : 0 ≤ n) : ¬ (cmpValue (FP.dcmp v (13695778570484766357 : UInt64)) .g) < (0 : Int32) := by
  obtain ⟨w, hw, w0⟩ := own_neg
  have p : 0 ≤ n * 2 ^ (1074 - 3) := Int.mul_nonneg hn (Int.le_of_lt (own_pos2 _))
  rw [own_cmpS h hw]
  generalize n * 2 ^ (1074 - 3) = u at p
  rw [if_neg (by omega)]
  split <;> decide
/-- the end: V eighths, times P, is E -/
theorem own_end {v dp dx : UInt64} {W P E : Int} (hv : own_S v (W * 2 ^ (1074 - 3))) (hp : own_S dp (P * 2 ^ 1074)) (hx : own_S dx (E * 2 ^ 1074)) (b : (W * P).natAbs < 9007199254740992) (h : W * P = 8 * E) : Jvm.Free.Fl.NoNaN64 (FP.dmul v dp) ∧ cmpValue (FP.dcmp (FP.dmul v dp) dx) .l = (0 : Int32) := by
  have q := own_mulS hv hp b (k := 3) (by decide) (own_u _ _ _ _ _ own_pp)
  refine ⟨own_Snn q, ?_⟩
  have e : W * P * 2 ^ (1074 - 3) = E * 2 ^ 1074 := by rw [h, own_p8, Int.mul_comm 8 E, Int.mul_assoc]
  rw [own_cmpS q hx, e, if_neg (Int.lt_irrefl _), if_pos rfl]
theorem own_mb {a b : Int} {A B : Nat} (ha : a.natAbs ≤ A) (hb : b.natAbs ≤ B) : (a * b).natAbs ≤ A * B := by rw [Int.natAbs_mul]; exact Nat.mul_le_mul ha hb
def own_AB (A B : Int) : Prop := (A = 1 ∧ B = 8) ∨ (A = 2 ∧ B = 4) ∨ (A = 4 ∧ B = 2) ∨ (A = 8 ∧ B = 1)
theorem own_sc {s : Int64} (h : s = 1 ∨ s = 2 ∨ s = 4 ∨ s = 8) : ∃ (u v w : UInt64) (A B : Int), FP.l2d s = u ∧ own_P u v w ∧ s.toInt = A ∧ own_AB A B ∧ own_S v (B * 2 ^ (1074 - 3)) ∧ own_S w (-B * 2 ^ (1074 - 3)) := by
  rcases h with rfl | rfl | rfl | rfl
  · exact ⟨_, _, _, _, _, by decide +kernel, Or.inl ⟨rfl, rfl, rfl⟩, rfl, Or.inl ⟨rfl, rfl⟩, ⟨false, 2 ^ 52, -52, by decide +kernel, by decide +kernel⟩, ⟨true, 2 ^ 52, -52, by decide +kernel, by decide +kernel⟩⟩
  · exact ⟨_, _, _, _, _, by decide +kernel, Or.inr (Or.inl ⟨rfl, rfl, rfl⟩), rfl, Or.inr (Or.inl ⟨rfl, rfl⟩), ⟨false, 2 ^ 52, -53, by decide +kernel, by decide +kernel⟩, ⟨true, 2 ^ 52, -53, by decide +kernel, by decide +kernel⟩⟩
  · exact ⟨_, _, _, _, _, by decide +kernel, Or.inr (Or.inr (Or.inl ⟨rfl, rfl, rfl⟩)), rfl, Or.inr (Or.inr (Or.inl ⟨rfl, rfl⟩)), ⟨false, 2 ^ 52, -54, by decide +kernel, by decide +kernel⟩, ⟨true, 2 ^ 52, -54, by decide +kernel, by decide +kernel⟩⟩
  · exact ⟨_, _, _, _, _, by decide +kernel, Or.inr (Or.inr (Or.inr ⟨rfl, rfl, rfl⟩)), rfl, Or.inr (Or.inr (Or.inr ⟨rfl, rfl⟩)), ⟨false, 2 ^ 52, -55, by decide +kernel, by decide +kernel⟩, ⟨true, 2 ^ 52, -55, by decide +kernel, by decide +kernel⟩⟩
theorem own_sh (y : Int32) : ((1 : Int64) <<< ((y &&& (3 : Int32)) &&& 0x3f).toInt64) = 1 ∨ ((1 : Int64) <<< ((y &&& (3 : Int32)) &&& 0x3f).toInt64) = 2 ∨ ((1 : Int64) <<< ((y &&& (3 : Int32)) &&& 0x3f).toInt64) = 4 ∨ ((1 : Int64) <<< ((y &&& (3 : Int32)) &&& 0x3f).toInt64) = 8 := by
  have e := c_mask y 3 2 (by decide) (by decide)
  have q : (y &&& 3).toInt = (0 : Int32).toInt ∨ (y &&& 3).toInt = (1 : Int32).toInt ∨ (y &&& 3).toInt = (2 : Int32).toInt ∨ (y &&& 3).toInt = (3 : Int32).toInt := by
    show _ = 0 ∨ _ = 1 ∨ _ = 2 ∨ _ = 3
    rw [e]; have : ((2 ^ 2 : Nat) : Int) = 4 := rfl
    omega
  rcases q with q | q | q | q <;> rw [Int32.toInt_inj.mp q] <;> decide
theorem own_cb (y : Int32) : ((y % (1000000 : Int32)).toInt64).toInt.natAbs ≤ 999999 := by
  rw [c_i2l]
  obtain ⟨p, q⟩ := c_irem y 1000000 1000000 rfl
  by_cases z : 0 ≤ y.toInt
  · rw [p z]; omega
  · rw [q (by omega)]; omega
theorem own_lb (y : Int32) : 0 ≤ (((y &&& (2147483647 : Int32)) % (1000000 : Int32)).toInt64).toInt ∧ (((y &&& (2147483647 : Int32)) % (1000000 : Int32)).toInt64).toInt ≤ 999999 := by
  rw [c_i2l]
  have c := (c_and y 2147483647 (by decide)).1
  rw [(c_irem (y &&& 2147483647) 1000000 1000000 rfl).1 c]; omega
theorem own_i3 {p q r : Int64} {a b c : Int} {A B D : Nat} (hp : p.toInt = a) (hq : q.toInt = b) (hr : r.toInt = c) (ha : a.natAbs ≤ A) (hb : b.natAbs ≤ B) (hc : c.natAbs ≤ D) (h1 : A * B < 9223372036854775808) (h2 : A * B * D < 9223372036854775808) : ((p * q) * r).toInt = a * b * c := by
  have m1 := own_mb ha hb
  have m2 := own_mb m1 hc
  have e1 : (p * q).toInt = a * b := by rw [Jvm.FP.Core.int64_mul (by rw [hp, hq]; omega) (by rw [hp, hq]; omega), hp, hq]
  rw [Jvm.FP.Core.int64_mul (by rw [e1, hr]; omega) (by rw [e1, hr]; omega), e1, hr]
theorem own_i2 {p q : Int64} {a b : Int} (hp : p.toInt = a) (hq : q.toInt = b) (h1 : a.natAbs ≤ 4611686018427387903) (h2 : b.natAbs ≤ 4611686018427387903) : (p + q).toInt = a + b := by
  rw [Jvm.FP.Core.int64_add (by rw [hp, hq]; omega) (by rw [hp, hq]; omega), hp, hq]
theorem own_m2 {p q : Int64} {a b : Int} {A B : Nat} (hp : p.toInt = a) (hq : q.toInt = b) (ha : a.natAbs ≤ A) (hb : b.natAbs ≤ B) (h : A * B < 9223372036854775808) : (p * q).toInt = a * b := by
  have m1 := own_mb ha hb
  rw [Jvm.FP.Core.int64_mul (by rw [hp, hq]; omega) (by rw [hp, hq]; omega), hp, hq]
theorem own_ABb {A B : Int} (h : own_AB A B) : 1 ≤ A ∧ A ≤ 8 ∧ 1 ≤ B ∧ B ≤ 8 := by rcases h with ⟨rfl, rfl⟩ | ⟨rfl, rfl⟩ | ⟨rfl, rfl⟩ | ⟨rfl, rfl⟩ <;> decide
theorem own_bm {B n : Int} (h1 : 1 ≤ B) (h2 : B ≤ 8) {N : Nat} (hn : n.natAbs ≤ N) : (B * n).natAbs ≤ 8 * N := own_mb (by omega) hn
/-- the values and the sum, in the order (c of the first row, of the second) -/
theorem own_val {a b e f : UInt64} {p q r s X Y : Int} (ha : own_S a (p * 2 ^ 1074)) (hb : own_S b (q * 2 ^ 1074)) (he : own_S e (r * 2 ^ (1074 - 3))) (hf : own_S f (s * 2 ^ (1074 - 3))) (hX : p * r = X) (hY : q * s = Y) (b1 : X.natAbs ≤ 40000000000000) (b2 : Y.natAbs ≤ 40000000000000) : own_ok a b e f ∧ own_S (own_tot a b e f) ((X + Y) * 2 ^ (1074 - 3)) :=
  own_totS ha hb he hf (by rw [← hX]; exact own_u' _ _ _ _ _ own_pp) (by rw [← hY]; exact own_u' _ _ _ _ _ own_pp) (by omega) (by omega) (by omega)
theorem own_row {a b e f : UInt64} {p q r s X Y : Int} (ha : own_S a (p * 2 ^ (1074 - 3))) (hb : own_S b (q * 2 ^ (1074 - 3))) (he : own_S e (r * 2 ^ 1074)) (hf : own_S f (s * 2 ^ 1074)) (hX : p * r = X) (hY : q * s = Y) (b1 : X.natAbs ≤ 40000000000000) (b2 : Y.natAbs ≤ 40000000000000) : own_ok a b e f ∧ own_S (own_tot a b e f) ((X + Y) * 2 ^ (1074 - 3)) :=
  own_totS ha hb he hf (by rw [← hX]; exact own_u _ _ _ _ _ own_pp) (by rw [← hY]; exact own_u _ _ _ _ _ own_pp) (by omega) (by omega) (by omega)
abbrev oF_inv (m : MethodId) (pc : Nat) (a0 a1 a2 a3 a4 a5 a6 a7 a8 a9 a10 : Slot) (S : List Value) : JFrame := mkF m pc #[a0, a1, a2, a3, a4, a5, a6, a7, a8, a9, a10] S
theorem o214_0 : decode prog_72_method_14_code 0 = .ok (.aload_n 0, 1) := by decide +kernel
theorem o214_1 : decode prog_72_method_14_code 1 = .ok (.getfield 47, 3) := by decide +kernel
theorem o214_4 : decode prog_72_method_14_code 4 = .ok (.astore_n 1, 1) := by decide +kernel
theorem o214_5 : decode prog_72_method_14_code 5 = .ok (.iconst 0, 1) := by decide +kernel
theorem o214_6 : decode prog_72_method_14_code 6 = .ok (.istore_n 2, 1) := by decide +kernel
theorem o214_7 : decode prog_72_method_14_code 7 = .ok (.iload_n 2, 1) := by decide +kernel
theorem o214_8 : decode prog_72_method_14_code 8 = .ok (.aload_n 0, 1) := by decide +kernel
theorem o214_9 : decode prog_72_method_14_code 9 = .ok (.getfield 25, 3) := by decide +kernel
theorem o214_12 : decode prog_72_method_14_code 12 = .ok (.if_icmp .ge 71, 3) := by decide +kernel
theorem o214_15 : decode prog_72_method_14_code 15 = .ok (.iconst 0, 1) := by decide +kernel
theorem o214_16 : decode prog_72_method_14_code 16 = .ok (.istore_n 3, 1) := by decide +kernel
theorem o214_17 : decode prog_72_method_14_code 17 = .ok (.iload_n 3, 1) := by decide +kernel
theorem o214_18 : decode prog_72_method_14_code 18 = .ok (.aload_n 0, 1) := by decide +kernel
theorem o214_19 : decode prog_72_method_14_code 19 = .ok (.getfield 25, 3) := by decide +kernel
theorem o214_22 : decode prog_72_method_14_code 22 = .ok (.if_icmp .ge 27, 3) := by decide +kernel
theorem o214_25 : decode prog_72_method_14_code 25 = .ok (.aload_n 1, 1) := by decide +kernel
theorem o214_26 : decode prog_72_method_14_code 26 = .ok (.iload_n 2, 1) := by decide +kernel
theorem o214_27 : decode prog_72_method_14_code 27 = .ok (.aaload, 1) := by decide +kernel
theorem o214_28 : decode prog_72_method_14_code 28 = .ok (.iload_n 3, 1) := by decide +kernel
theorem o214_29 : decode prog_72_method_14_code 29 = .ok (.aload_n 0, 1) := by decide +kernel
theorem o214_30 : decode prog_72_method_14_code 30 = .ok (.getfield 9, 3) := by decide +kernel
theorem o214_33 : decode prog_72_method_14_code 33 = .ok (.aload_n 0, 1) := by decide +kernel
theorem o214_34 : decode prog_72_method_14_code 34 = .ok (.getfield 36, 3) := by decide +kernel
theorem o214_37 : decode prog_72_method_14_code 37 = .ok (.iload_n 3, 1) := by decide +kernel
theorem o214_38 : decode prog_72_method_14_code 38 = .ok (.iaload, 1) := by decide +kernel
theorem o214_39 : decode prog_72_method_14_code 39 = .ok (.aaload, 1) := by decide +kernel
theorem o214_40 : decode prog_72_method_14_code 40 = .ok (.iload_n 2, 1) := by decide +kernel
theorem o214_41 : decode prog_72_method_14_code 41 = .ok (.daload, 1) := by decide +kernel
theorem o214_42 : decode prog_72_method_14_code 42 = .ok (.dastore, 1) := by decide +kernel
theorem o214_43 : decode prog_72_method_14_code 43 = .ok (.iinc 3 1, 3) := by decide +kernel
theorem o214_46 : decode prog_72_method_14_code 46 = .ok (.goto (-29), 3) := by decide +kernel
theorem o214_49 : decode prog_72_method_14_code 49 = .ok (.aload_n 1, 1) := by decide +kernel
theorem o214_50 : decode prog_72_method_14_code 50 = .ok (.iload_n 2, 1) := by decide +kernel
theorem o214_51 : decode prog_72_method_14_code 51 = .ok (.aaload, 1) := by decide +kernel
theorem o214_52 : decode prog_72_method_14_code 52 = .ok (.aload_n 0, 1) := by decide +kernel
theorem o214_53 : decode prog_72_method_14_code 53 = .ok (.getfield 25, 3) := by decide +kernel
theorem o214_56 : decode prog_72_method_14_code 56 = .ok (.iconst 2, 1) := by decide +kernel
theorem o214_57 : decode prog_72_method_14_code 57 = .ok (.aload_n 0, 1) := by decide +kernel
theorem o214_58 : decode prog_72_method_14_code 58 = .ok (.getfield 25, 3) := by decide +kernel
theorem o214_61 : decode prog_72_method_14_code 61 = .ok (.imul, 1) := by decide +kernel
theorem o214_62 : decode prog_72_method_14_code 62 = .ok (.dconst 0, 1) := by decide +kernel
theorem o214_63 : decode prog_72_method_14_code 63 = .ok (.invokestatic 123, 3) := by decide +kernel
theorem own_pd_285bDIID29V : parseMethodDescriptor "([DIID)V" = some ⟨[(.array .double), .int, .int, .double], none⟩ := by decide +kernel
theorem o214_66 : decode prog_72_method_14_code 66 = .ok (.aload_n 1, 1) := by decide +kernel
theorem o214_67 : decode prog_72_method_14_code 67 = .ok (.iload_n 2, 1) := by decide +kernel
theorem o214_68 : decode prog_72_method_14_code 68 = .ok (.aaload, 1) := by decide +kernel
theorem o214_69 : decode prog_72_method_14_code 69 = .ok (.aload_n 0, 1) := by decide +kernel
theorem o214_70 : decode prog_72_method_14_code 70 = .ok (.getfield 25, 3) := by decide +kernel
theorem o214_73 : decode prog_72_method_14_code 73 = .ok (.iload_n 2, 1) := by decide +kernel
theorem o214_74 : decode prog_72_method_14_code 74 = .ok (.iadd, 1) := by decide +kernel
theorem o214_75 : decode prog_72_method_14_code 75 = .ok (.dconst 1, 1) := by decide +kernel
theorem o214_76 : decode prog_72_method_14_code 76 = .ok (.dastore, 1) := by decide +kernel
theorem o214_77 : decode prog_72_method_14_code 77 = .ok (.iinc 2 1, 3) := by decide +kernel
theorem o214_80 : decode prog_72_method_14_code 80 = .ok (.goto (-73), 3) := by decide +kernel
theorem o214_83 : decode prog_72_method_14_code 83 = .ok (.iconst 0, 1) := by decide +kernel
theorem o214_84 : decode prog_72_method_14_code 84 = .ok (.istore_n 2, 1) := by decide +kernel
theorem o214_85 : decode prog_72_method_14_code 85 = .ok (.iload_n 2, 1) := by decide +kernel
theorem o214_86 : decode prog_72_method_14_code 86 = .ok (.aload_n 0, 1) := by decide +kernel
theorem o214_87 : decode prog_72_method_14_code 87 = .ok (.getfield 25, 3) := by decide +kernel
theorem o214_90 : decode prog_72_method_14_code 90 = .ok (.if_icmp .ge 204, 3) := by decide +kernel
theorem o214_93 : decode prog_72_method_14_code 93 = .ok (.iload_n 2, 1) := by decide +kernel
theorem o214_94 : decode prog_72_method_14_code 94 = .ok (.istore_n 3, 1) := by decide +kernel
theorem o214_95 : decode prog_72_method_14_code 95 = .ok (.iload_n 2, 1) := by decide +kernel
theorem o214_96 : decode prog_72_method_14_code 96 = .ok (.iconst 1, 1) := by decide +kernel
theorem o214_97 : decode prog_72_method_14_code 97 = .ok (.iadd, 1) := by decide +kernel
theorem o214_98 : decode prog_72_method_14_code 98 = .ok (.istore 4, 2) := by decide +kernel
theorem o214_100 : decode prog_72_method_14_code 100 = .ok (.iload 4, 2) := by decide +kernel
theorem o214_102 : decode prog_72_method_14_code 102 = .ok (.aload_n 0, 1) := by decide +kernel
theorem o214_103 : decode prog_72_method_14_code 103 = .ok (.getfield 25, 3) := by decide +kernel
theorem o214_106 : decode prog_72_method_14_code 106 = .ok (.if_icmp .ge 33, 3) := by decide +kernel
theorem o214_109 : decode prog_72_method_14_code 109 = .ok (.aload_n 1, 1) := by decide +kernel
theorem o214_110 : decode prog_72_method_14_code 110 = .ok (.iload 4, 2) := by decide +kernel
theorem o214_112 : decode prog_72_method_14_code 112 = .ok (.aaload, 1) := by decide +kernel
theorem o214_113 : decode prog_72_method_14_code 113 = .ok (.iload_n 2, 1) := by decide +kernel
theorem o214_114 : decode prog_72_method_14_code 114 = .ok (.daload, 1) := by decide +kernel
theorem o214_115 : decode prog_72_method_14_code 115 = .ok (.invokestatic 75, 3) := by decide +kernel
theorem own_f0 {ux vx wx uy vy wy : UInt64} (hPx : own_P ux vx wx) (hPy : own_P uy vy wy) : (FP.dconst0 &&& 0x7fffffffffffffff) = (0 : UInt64) := by decide +kernel
theorem own_s0 {ux vx wx uy vy wy : UInt64} (hPx : own_P ux vx wx) (hPy : own_P uy vy wy) : Jvm.Free.Fl.NoNaN64 FP.dconst0 := by (unfold Jvm.Free.Fl.NoNaN64; decide +kernel)
theorem own_pd_28D29D : parseMethodDescriptor "(D)D" = some ⟨[.double], some .double⟩ := by decide +kernel
theorem o214_118 : decode prog_72_method_14_code 118 = .ok (.aload_n 1, 1) := by decide +kernel
theorem o214_119 : decode prog_72_method_14_code 119 = .ok (.iload_n 3, 1) := by decide +kernel
theorem o214_120 : decode prog_72_method_14_code 120 = .ok (.aaload, 1) := by decide +kernel
theorem o214_121 : decode prog_72_method_14_code 121 = .ok (.iload_n 2, 1) := by decide +kernel
theorem o214_122 : decode prog_72_method_14_code 122 = .ok (.daload, 1) := by decide +kernel
theorem o214_123 : decode prog_72_method_14_code 123 = .ok (.invokestatic 75, 3) := by decide +kernel
theorem own_f1 {ux vx wx uy vy wy : UInt64} (hPx : own_P ux vx wx) (hPy : own_P uy vy wy) : (ux &&& 0x7fffffffffffffff) = ux := by rcases hPx with ⟨rfl, rfl, rfl⟩ | ⟨rfl, rfl, rfl⟩ | ⟨rfl, rfl, rfl⟩ | ⟨rfl, rfl, rfl⟩ <;> decide +kernel
theorem own_s1 {ux vx wx uy vy wy : UInt64} (hPx : own_P ux vx wx) (hPy : own_P uy vy wy) : Jvm.Free.Fl.NoNaN64 ux := by rcases hPx with ⟨rfl, rfl, rfl⟩ | ⟨rfl, rfl, rfl⟩ | ⟨rfl, rfl, rfl⟩ | ⟨rfl, rfl, rfl⟩ <;> (unfold Jvm.Free.Fl.NoNaN64; decide +kernel)
theorem o214_126 : decode prog_72_method_14_code 126 = .ok (.dcmp .l, 1) := by decide +kernel
theorem own_f2 {ux vx wx uy vy wy : UInt64} (hPx : own_P ux vx wx) (hPy : own_P uy vy wy) : cmpValue (FP.dcmp (0 : UInt64) ux) .l = (-1 : Int32) := by rcases hPx with ⟨rfl, rfl, rfl⟩ | ⟨rfl, rfl, rfl⟩ | ⟨rfl, rfl, rfl⟩ | ⟨rfl, rfl, rfl⟩ <;> decide +kernel
theorem o214_127 : decode prog_72_method_14_code 127 = .ok (.ifCond .le 6, 3) := by decide +kernel
theorem o214_133 : decode prog_72_method_14_code 133 = .ok (.iinc 4 1, 3) := by decide +kernel
theorem o214_136 : decode prog_72_method_14_code 136 = .ok (.goto (-36), 3) := by decide +kernel
theorem o214_139 : decode prog_72_method_14_code 139 = .ok (.aload_n 1, 1) := by decide +kernel
theorem o214_140 : decode prog_72_method_14_code 140 = .ok (.iload_n 3, 1) := by decide +kernel
theorem o214_141 : decode prog_72_method_14_code 141 = .ok (.aaload, 1) := by decide +kernel
theorem o214_142 : decode prog_72_method_14_code 142 = .ok (.iload_n 2, 1) := by decide +kernel
theorem o214_143 : decode prog_72_method_14_code 143 = .ok (.daload, 1) := by decide +kernel
theorem o214_144 : decode prog_72_method_14_code 144 = .ok (.invokestatic 75, 3) := by decide +kernel
theorem o214_147 : decode prog_72_method_14_code 147 = .ok (.ldc2_w 81, 3) := by decide +kernel
theorem o214_150 : decode prog_72_method_14_code 150 = .ok (.dcmp .g, 1) := by decide +kernel
theorem own_f3 {ux vx wx uy vy wy : UInt64} (hPx : own_P ux vx wx) (hPy : own_P uy vy wy) : cmpValue (FP.dcmp ux (4472406533629990549 : UInt64)) .g = (1 : Int32) := by rcases hPx with ⟨rfl, rfl, rfl⟩ | ⟨rfl, rfl, rfl⟩ | ⟨rfl, rfl, rfl⟩ | ⟨rfl, rfl, rfl⟩ <;> decide +kernel
theorem o214_151 : decode prog_72_method_14_code 151 = .ok (.ifCond .gt 5, 3) := by decide +kernel
theorem o214_156 : decode prog_72_method_14_code 156 = .ok (.aload_n 1, 1) := by decide +kernel
theorem o214_157 : decode prog_72_method_14_code 157 = .ok (.iload_n 2, 1) := by decide +kernel
theorem o214_158 : decode prog_72_method_14_code 158 = .ok (.aaload, 1) := by decide +kernel
theorem o214_159 : decode prog_72_method_14_code 159 = .ok (.astore 4, 2) := by decide +kernel
theorem o214_161 : decode prog_72_method_14_code 161 = .ok (.aload_n 1, 1) := by decide +kernel
theorem o214_162 : decode prog_72_method_14_code 162 = .ok (.iload_n 2, 1) := by decide +kernel
theorem o214_163 : decode prog_72_method_14_code 163 = .ok (.aload_n 1, 1) := by decide +kernel
theorem o214_164 : decode prog_72_method_14_code 164 = .ok (.iload_n 3, 1) := by decide +kernel
theorem o214_165 : decode prog_72_method_14_code 165 = .ok (.aaload, 1) := by decide +kernel
theorem o214_166 : decode prog_72_method_14_code 166 = .ok (.aastore, 1) := by decide +kernel
theorem o214_167 : decode prog_72_method_14_code 167 = .ok (.aload_n 1, 1) := by decide +kernel
theorem o214_168 : decode prog_72_method_14_code 168 = .ok (.iload_n 3, 1) := by decide +kernel
theorem o214_169 : decode prog_72_method_14_code 169 = .ok (.aload 4, 2) := by decide +kernel
theorem o214_171 : decode prog_72_method_14_code 171 = .ok (.aastore, 1) := by decide +kernel
theorem o214_172 : decode prog_72_method_14_code 172 = .ok (.aload_n 1, 1) := by decide +kernel
theorem o214_173 : decode prog_72_method_14_code 173 = .ok (.iload_n 2, 1) := by decide +kernel
theorem o214_174 : decode prog_72_method_14_code 174 = .ok (.aaload, 1) := by decide +kernel
theorem o214_175 : decode prog_72_method_14_code 175 = .ok (.iload_n 2, 1) := by decide +kernel
theorem o214_176 : decode prog_72_method_14_code 176 = .ok (.daload, 1) := by decide +kernel
theorem o214_177 : decode prog_72_method_14_code 177 = .ok (.dstore 5, 2) := by decide +kernel
theorem o214_179 : decode prog_72_method_14_code 179 = .ok (.iconst 0, 1) := by decide +kernel
theorem o214_180 : decode prog_72_method_14_code 180 = .ok (.istore 7, 2) := by decide +kernel
theorem o214_182 : decode prog_72_method_14_code 182 = .ok (.iload 7, 2) := by decide +kernel
theorem o214_184 : decode prog_72_method_14_code 184 = .ok (.iconst 2, 1) := by decide +kernel
theorem o214_185 : decode prog_72_method_14_code 185 = .ok (.aload_n 0, 1) := by decide +kernel
theorem o214_186 : decode prog_72_method_14_code 186 = .ok (.getfield 25, 3) := by decide +kernel
theorem o214_189 : decode prog_72_method_14_code 189 = .ok (.imul, 1) := by decide +kernel
theorem o214_190 : decode prog_72_method_14_code 190 = .ok (.if_icmp .ge 20, 3) := by decide +kernel
theorem o214_193 : decode prog_72_method_14_code 193 = .ok (.aload_n 1, 1) := by decide +kernel
theorem o214_194 : decode prog_72_method_14_code 194 = .ok (.iload_n 2, 1) := by decide +kernel
theorem o214_195 : decode prog_72_method_14_code 195 = .ok (.aaload, 1) := by decide +kernel
theorem o214_196 : decode prog_72_method_14_code 196 = .ok (.iload 7, 2) := by decide +kernel
theorem o214_198 : decode prog_72_method_14_code 198 = .ok (.dup2, 1) := by decide +kernel
theorem o214_199 : decode prog_72_method_14_code 199 = .ok (.daload, 1) := by decide +kernel
theorem o214_200 : decode prog_72_method_14_code 200 = .ok (.dload 5, 2) := by decide +kernel
theorem o214_202 : decode prog_72_method_14_code 202 = .ok (.ddiv, 1) := by decide +kernel
theorem own_f4 {ux vx wx uy vy wy : UInt64} (hPx : own_P ux vx wx) (hPy : own_P uy vy wy) : FP.ddiv ux ux = (4607182418800017408 : UInt64) := by rcases hPx with ⟨rfl, rfl, rfl⟩ | ⟨rfl, rfl, rfl⟩ | ⟨rfl, rfl, rfl⟩ | ⟨rfl, rfl, rfl⟩ <;> decide +kernel
theorem own_f4n {ux vx wx uy vy wy : UInt64} (hPx : own_P ux vx wx) (hPy : own_P uy vy wy) : Jvm.Free.Fl.NoNaN64 (FP.ddiv ux ux) := by rw [own_f4 hPx hPy]; (unfold Jvm.Free.Fl.NoNaN64; decide +kernel)
theorem o214_203 : decode prog_72_method_14_code 203 = .ok (.dastore, 1) := by decide +kernel
theorem o214_204 : decode prog_72_method_14_code 204 = .ok (.iinc 7 1, 3) := by decide +kernel
theorem o214_207 : decode prog_72_method_14_code 207 = .ok (.goto (-25), 3) := by decide +kernel
theorem own_f5 {ux vx wx uy vy wy : UInt64} (hPx : own_P ux vx wx) (hPy : own_P uy vy wy) : FP.ddiv FP.dconst0 ux = (0 : UInt64) := by rcases hPx with ⟨rfl, rfl, rfl⟩ | ⟨rfl, rfl, rfl⟩ | ⟨rfl, rfl, rfl⟩ | ⟨rfl, rfl, rfl⟩ <;> decide +kernel
theorem own_f5n {ux vx wx uy vy wy : UInt64} (hPx : own_P ux vx wx) (hPy : own_P uy vy wy) : Jvm.Free.Fl.NoNaN64 (FP.ddiv FP.dconst0 ux) := by rw [own_f5 hPx hPy]; (unfold Jvm.Free.Fl.NoNaN64; decide +kernel)
theorem own_f6 {ux vx wx uy vy wy : UInt64} (hPx : own_P ux vx wx) (hPy : own_P uy vy wy) : FP.ddiv FP.dconst1 ux = vx := by rcases hPx with ⟨rfl, rfl, rfl⟩ | ⟨rfl, rfl, rfl⟩ | ⟨rfl, rfl, rfl⟩ | ⟨rfl, rfl, rfl⟩ <;> decide +kernel
theorem own_f6n {ux vx wx uy vy wy : UInt64} (hPx : own_P ux vx wx) (hPy : own_P uy vy wy) : Jvm.Free.Fl.NoNaN64 (FP.ddiv FP.dconst1 ux) := by rw [own_f6 hPx hPy]; rcases hPx with ⟨rfl, rfl, rfl⟩ | ⟨rfl, rfl, rfl⟩ | ⟨rfl, rfl, rfl⟩ | ⟨rfl, rfl, rfl⟩ <;> (unfold Jvm.Free.Fl.NoNaN64; decide +kernel)
theorem o214_210 : decode prog_72_method_14_code 210 = .ok (.iconst 0, 1) := by decide +kernel
theorem o214_211 : decode prog_72_method_14_code 211 = .ok (.istore 7, 2) := by decide +kernel
theorem o214_213 : decode prog_72_method_14_code 213 = .ok (.iload 7, 2) := by decide +kernel
theorem o214_215 : decode prog_72_method_14_code 215 = .ok (.aload_n 0, 1) := by decide +kernel
theorem o214_216 : decode prog_72_method_14_code 216 = .ok (.getfield 25, 3) := by decide +kernel
theorem o214_219 : decode prog_72_method_14_code 219 = .ok (.if_icmp .ge 69, 3) := by decide +kernel
theorem o214_222 : decode prog_72_method_14_code 222 = .ok (.aload_n 1, 1) := by decide +kernel
theorem o214_223 : decode prog_72_method_14_code 223 = .ok (.iload 7, 2) := by decide +kernel
theorem o214_225 : decode prog_72_method_14_code 225 = .ok (.aaload, 1) := by decide +kernel
theorem o214_226 : decode prog_72_method_14_code 226 = .ok (.iload_n 2, 1) := by decide +kernel
theorem o214_227 : decode prog_72_method_14_code 227 = .ok (.daload, 1) := by decide +kernel
theorem o214_228 : decode prog_72_method_14_code 228 = .ok (.dstore 8, 2) := by decide +kernel
theorem o214_230 : decode prog_72_method_14_code 230 = .ok (.iload 7, 2) := by decide +kernel
theorem o214_232 : decode prog_72_method_14_code 232 = .ok (.iload_n 2, 1) := by decide +kernel
theorem o214_233 : decode prog_72_method_14_code 233 = .ok (.if_icmp .eq 49, 3) := by decide +kernel
theorem o214_282 : decode prog_72_method_14_code 282 = .ok (.iinc 7 1, 3) := by decide +kernel
theorem o214_285 : decode prog_72_method_14_code 285 = .ok (.goto (-72), 3) := by decide +kernel
theorem o214_236 : decode prog_72_method_14_code 236 = .ok (.dload 8, 2) := by decide +kernel
theorem o214_238 : decode prog_72_method_14_code 238 = .ok (.dconst 0, 1) := by decide +kernel
theorem o214_239 : decode prog_72_method_14_code 239 = .ok (.dcmp .l, 1) := by decide +kernel
theorem own_f7 {ux vx wx uy vy wy : UInt64} (hPx : own_P ux vx wx) (hPy : own_P uy vy wy) : cmpValue (FP.dcmp FP.dconst0 FP.dconst0) .l = (0 : Int32) := by decide +kernel
theorem o214_240 : decode prog_72_method_14_code 240 = .ok (.ifCond .eq 42, 3) := by decide +kernel
theorem o214_288 : decode prog_72_method_14_code 288 = .ok (.iinc 2 1, 3) := by decide +kernel
theorem o214_291 : decode prog_72_method_14_code 291 = .ok (.goto (-206), 3) := by decide +kernel
theorem own_f8 {ux vx wx uy vy wy : UInt64} (hPx : own_P ux vx wx) (hPy : own_P uy vy wy) : (uy &&& 0x7fffffffffffffff) = uy := by rcases hPy with ⟨rfl, rfl, rfl⟩ | ⟨rfl, rfl, rfl⟩ | ⟨rfl, rfl, rfl⟩ | ⟨rfl, rfl, rfl⟩ <;> decide +kernel
theorem own_s2 {ux vx wx uy vy wy : UInt64} (hPx : own_P ux vx wx) (hPy : own_P uy vy wy) : Jvm.Free.Fl.NoNaN64 uy := by rcases hPy with ⟨rfl, rfl, rfl⟩ | ⟨rfl, rfl, rfl⟩ | ⟨rfl, rfl, rfl⟩ | ⟨rfl, rfl, rfl⟩ <;> (unfold Jvm.Free.Fl.NoNaN64; decide +kernel)
theorem own_f9 {ux vx wx uy vy wy : UInt64} (hPx : own_P ux vx wx) (hPy : own_P uy vy wy) : cmpValue (FP.dcmp uy (4472406533629990549 : UInt64)) .g = (1 : Int32) := by rcases hPy with ⟨rfl, rfl, rfl⟩ | ⟨rfl, rfl, rfl⟩ | ⟨rfl, rfl, rfl⟩ | ⟨rfl, rfl, rfl⟩ <;> decide +kernel
theorem own_f10 {ux vx wx uy vy wy : UInt64} (hPx : own_P ux vx wx) (hPy : own_P uy vy wy) : FP.ddiv FP.dconst0 uy = (0 : UInt64) := by rcases hPy with ⟨rfl, rfl, rfl⟩ | ⟨rfl, rfl, rfl⟩ | ⟨rfl, rfl, rfl⟩ | ⟨rfl, rfl, rfl⟩ <;> decide +kernel
theorem own_f10n {ux vx wx uy vy wy : UInt64} (hPx : own_P ux vx wx) (hPy : own_P uy vy wy) : Jvm.Free.Fl.NoNaN64 (FP.ddiv FP.dconst0 uy) := by rw [own_f10 hPx hPy]; (unfold Jvm.Free.Fl.NoNaN64; decide +kernel)
theorem own_f11 {ux vx wx uy vy wy : UInt64} (hPx : own_P ux vx wx) (hPy : own_P uy vy wy) : FP.ddiv uy uy = (4607182418800017408 : UInt64) := by rcases hPy with ⟨rfl, rfl, rfl⟩ | ⟨rfl, rfl, rfl⟩ | ⟨rfl, rfl, rfl⟩ | ⟨rfl, rfl, rfl⟩ <;> decide +kernel
theorem own_f11n {ux vx wx uy vy wy : UInt64} (hPx : own_P ux vx wx) (hPy : own_P uy vy wy) : Jvm.Free.Fl.NoNaN64 (FP.ddiv uy uy) := by rw [own_f11 hPx hPy]; (unfold Jvm.Free.Fl.NoNaN64; decide +kernel)
theorem own_f12 {ux vx wx uy vy wy : UInt64} (hPx : own_P ux vx wx) (hPy : own_P uy vy wy) : FP.ddiv FP.dconst1 uy = vy := by rcases hPy with ⟨rfl, rfl, rfl⟩ | ⟨rfl, rfl, rfl⟩ | ⟨rfl, rfl, rfl⟩ | ⟨rfl, rfl, rfl⟩ <;> decide +kernel
theorem own_f12n {ux vx wx uy vy wy : UInt64} (hPx : own_P ux vx wx) (hPy : own_P uy vy wy) : Jvm.Free.Fl.NoNaN64 (FP.ddiv FP.dconst1 uy) := by rw [own_f12 hPx hPy]; rcases hPy with ⟨rfl, rfl, rfl⟩ | ⟨rfl, rfl, rfl⟩ | ⟨rfl, rfl, rfl⟩ | ⟨rfl, rfl, rfl⟩ <;> (unfold Jvm.Free.Fl.NoNaN64; decide +kernel)
theorem own_f13 {ux vx wx uy vy wy : UInt64} (hPx : own_P ux vx wx) (hPy : own_P uy vy wy) : cmpValue (FP.dcmp (0 : UInt64) FP.dconst0) .l = (0 : Int32) := by decide +kernel
theorem o214_294 : decode prog_72_method_14_code 294 = .ok (.iconst 0, 1) := by decide +kernel
theorem o214_295 : decode prog_72_method_14_code 295 = .ok (.istore_n 2, 1) := by decide +kernel
theorem o214_296 : decode prog_72_method_14_code 296 = .ok (.iload_n 2, 1) := by decide +kernel
theorem o214_297 : decode prog_72_method_14_code 297 = .ok (.aload_n 0, 1) := by decide +kernel
theorem o214_298 : decode prog_72_method_14_code 298 = .ok (.getfield 25, 3) := by decide +kernel
theorem o214_301 : decode prog_72_method_14_code 301 = .ok (.if_icmp .ge 30, 3) := by decide +kernel
theorem o214_304 : decode prog_72_method_14_code 304 = .ok (.aload_n 1, 1) := by decide +kernel
theorem o214_305 : decode prog_72_method_14_code 305 = .ok (.iload_n 2, 1) := by decide +kernel
theorem o214_306 : decode prog_72_method_14_code 306 = .ok (.aaload, 1) := by decide +kernel
theorem o214_307 : decode prog_72_method_14_code 307 = .ok (.aload_n 0, 1) := by decide +kernel
theorem o214_308 : decode prog_72_method_14_code 308 = .ok (.getfield 25, 3) := by decide +kernel
theorem o214_311 : decode prog_72_method_14_code 311 = .ok (.aload_n 0, 1) := by decide +kernel
theorem o214_312 : decode prog_72_method_14_code 312 = .ok (.getfield 41, 3) := by decide +kernel
theorem o214_315 : decode prog_72_method_14_code 315 = .ok (.iload_n 2, 1) := by decide +kernel
theorem o214_316 : decode prog_72_method_14_code 316 = .ok (.aaload, 1) := by decide +kernel
theorem o214_317 : decode prog_72_method_14_code 317 = .ok (.iconst 0, 1) := by decide +kernel
theorem o214_318 : decode prog_72_method_14_code 318 = .ok (.aload_n 0, 1) := by decide +kernel
theorem o214_319 : decode prog_72_method_14_code 319 = .ok (.getfield 25, 3) := by decide +kernel
theorem o214_322 : decode prog_72_method_14_code 322 = .ok (.invokestatic 126, 3) := by decide +kernel
theorem o214_325 : decode prog_72_method_14_code 325 = .ok (.iinc 2 1, 3) := by decide +kernel
theorem o214_328 : decode prog_72_method_14_code 328 = .ok (.goto (-32), 3) := by decide +kernel
theorem o214_331 : decode prog_72_method_14_code 331 = .ok (.aload_n 0, 1) := by decide +kernel
theorem o214_332 : decode prog_72_method_14_code 332 = .ok (.aload_n 0, 1) := by decide +kernel
theorem o214_333 : decode prog_72_method_14_code 333 = .ok (.getfield 33, 3) := by decide +kernel
theorem o214_336 : decode prog_72_method_14_code 336 = .ok (.aload_n 0, 1) := by decide +kernel
theorem o214_337 : decode prog_72_method_14_code 337 = .ok (.getfield 44, 3) := by decide +kernel
theorem o214_340 : decode prog_72_method_14_code 340 = .ok (.invokevirtual 101, 3) := by decide +kernel
theorem own_pd_285bD5bD29V : parseMethodDescriptor "([D[D)V" = some ⟨[(.array .double), (.array .double)], none⟩ := by decide +kernel
theorem o214_343 : decode prog_72_method_14_code 343 = .ok (.iconst 1, 1) := by decide +kernel
theorem o214_344 : decode prog_72_method_14_code 344 = .ok (.ireturn, 1) := by decide +kernel
theorem own_f14 {ux vx wx uy vy wy : UInt64} (hPx : own_P ux vx wx) (hPy : own_P uy vy wy) : cmpValue (FP.dcmp uy (0 : UInt64)) .l = (1 : Int32) := by rcases hPy with ⟨rfl, rfl, rfl⟩ | ⟨rfl, rfl, rfl⟩ | ⟨rfl, rfl, rfl⟩ | ⟨rfl, rfl, rfl⟩ <;> decide +kernel
theorem o214_130 : decode prog_72_method_14_code 130 = .ok (.iload 4, 2) := by decide +kernel
theorem o214_132 : decode prog_72_method_14_code 132 = .ok (.istore_n 3, 1) := by decide +kernel
theorem own_f15 {ux vx wx uy vy wy : UInt64} (hPx : own_P ux vx wx) (hPy : own_P uy vy wy) : (FP.dconst1 &&& 0x7fffffffffffffff) = (4607182418800017408 : UInt64) := by decide +kernel
theorem own_s3 {ux vx wx uy vy wy : UInt64} (hPx : own_P ux vx wx) (hPy : own_P uy vy wy) : Jvm.Free.Fl.NoNaN64 FP.dconst1 := by (unfold Jvm.Free.Fl.NoNaN64; decide +kernel)
theorem own_f16 {ux vx wx uy vy wy : UInt64} (hPx : own_P ux vx wx) (hPy : own_P uy vy wy) : cmpValue (FP.dcmp (4607182418800017408 : UInt64) (4607182418800017408 : UInt64)) .l = (0 : Int32) := by decide +kernel
theorem own_f17 {ux vx wx uy vy wy : UInt64} (hPx : own_P ux vx wx) (hPy : own_P uy vy wy) : cmpValue (FP.dcmp (4607182418800017408 : UInt64) (4472406533629990549 : UInt64)) .g = (1 : Int32) := by decide +kernel
theorem own_f18 {ux vx wx uy vy wy : UInt64} (hPx : own_P ux vx wx) (hPy : own_P uy vy wy) : FP.ddiv FP.dconst1 FP.dconst1 = (4607182418800017408 : UInt64) := by decide +kernel
theorem own_f18n {ux vx wx uy vy wy : UInt64} (hPx : own_P ux vx wx) (hPy : own_P uy vy wy) : Jvm.Free.Fl.NoNaN64 (FP.ddiv FP.dconst1 FP.dconst1) := by rw [own_f18 hPx hPy]; (unfold Jvm.Free.Fl.NoNaN64; decide +kernel)
theorem own_f19 {ux vx wx uy vy wy : UInt64} (hPx : own_P ux vx wx) (hPy : own_P uy vy wy) : FP.ddiv FP.dconst0 FP.dconst1 = (0 : UInt64) := by decide +kernel
theorem own_f19n {ux vx wx uy vy wy : UInt64} (hPx : own_P ux vx wx) (hPy : own_P uy vy wy) : Jvm.Free.Fl.NoNaN64 (FP.ddiv FP.dconst0 FP.dconst1) := by rw [own_f19 hPx hPy]; (unfold Jvm.Free.Fl.NoNaN64; decide +kernel)
theorem own_f20 {ux vx wx uy vy wy : UInt64} (hPx : own_P ux vx wx) (hPy : own_P uy vy wy) : cmpValue (FP.dcmp FP.dconst1 FP.dconst0) .l = (1 : Int32) := by decide +kernel
theorem o214_243 : decode prog_72_method_14_code 243 = .ok (.iconst 0, 1) := by decide +kernel
theorem o214_244 : decode prog_72_method_14_code 244 = .ok (.istore 10, 2) := by decide +kernel
theorem o214_246 : decode prog_72_method_14_code 246 = .ok (.iload 10, 2) := by decide +kernel
theorem o214_248 : decode prog_72_method_14_code 248 = .ok (.iconst 2, 1) := by decide +kernel
theorem o214_249 : decode prog_72_method_14_code 249 = .ok (.aload_n 0, 1) := by decide +kernel
theorem o214_250 : decode prog_72_method_14_code 250 = .ok (.getfield 25, 3) := by decide +kernel
theorem o214_253 : decode prog_72_method_14_code 253 = .ok (.imul, 1) := by decide +kernel
theorem o214_254 : decode prog_72_method_14_code 254 = .ok (.if_icmp .ge 28, 3) := by decide +kernel
theorem o214_257 : decode prog_72_method_14_code 257 = .ok (.aload_n 1, 1) := by decide +kernel
theorem o214_258 : decode prog_72_method_14_code 258 = .ok (.iload 7, 2) := by decide +kernel
theorem o214_260 : decode prog_72_method_14_code 260 = .ok (.aaload, 1) := by decide +kernel
theorem o214_261 : decode prog_72_method_14_code 261 = .ok (.iload 10, 2) := by decide +kernel
theorem o214_263 : decode prog_72_method_14_code 263 = .ok (.dup2, 1) := by decide +kernel
theorem o214_264 : decode prog_72_method_14_code 264 = .ok (.daload, 1) := by decide +kernel
theorem o214_265 : decode prog_72_method_14_code 265 = .ok (.dload 8, 2) := by decide +kernel
theorem o214_267 : decode prog_72_method_14_code 267 = .ok (.aload_n 1, 1) := by decide +kernel
theorem o214_268 : decode prog_72_method_14_code 268 = .ok (.iload_n 2, 1) := by decide +kernel
theorem o214_269 : decode prog_72_method_14_code 269 = .ok (.aaload, 1) := by decide +kernel
theorem o214_270 : decode prog_72_method_14_code 270 = .ok (.iload 10, 2) := by decide +kernel
theorem o214_272 : decode prog_72_method_14_code 272 = .ok (.daload, 1) := by decide +kernel
theorem o214_273 : decode prog_72_method_14_code 273 = .ok (.dmul, 1) := by decide +kernel
theorem own_f21 {ux vx wx uy vy wy : UInt64} (hPx : own_P ux vx wx) (hPy : own_P uy vy wy) : FP.dmul FP.dconst1 (4607182418800017408 : UInt64) = (4607182418800017408 : UInt64) := by decide +kernel
theorem own_f21n {ux vx wx uy vy wy : UInt64} (hPx : own_P ux vx wx) (hPy : own_P uy vy wy) : Jvm.Free.Fl.NoNaN64 (FP.dmul FP.dconst1 (4607182418800017408 : UInt64)) := by rw [own_f21 hPx hPy]; (unfold Jvm.Free.Fl.NoNaN64; decide +kernel)
theorem o214_274 : decode prog_72_method_14_code 274 = .ok (.dsub, 1) := by decide +kernel
theorem own_f22 {ux vx wx uy vy wy : UInt64} (hPx : own_P ux vx wx) (hPy : own_P uy vy wy) : FP.dsub FP.dconst1 (4607182418800017408 : UInt64) = (0 : UInt64) := by decide +kernel
theorem own_f22n {ux vx wx uy vy wy : UInt64} (hPx : own_P ux vx wx) (hPy : own_P uy vy wy) : Jvm.Free.Fl.NoNaN64 (FP.dsub FP.dconst1 (4607182418800017408 : UInt64)) := by rw [own_f22 hPx hPy]; (unfold Jvm.Free.Fl.NoNaN64; decide +kernel)
theorem o214_275 : decode prog_72_method_14_code 275 = .ok (.dastore, 1) := by decide +kernel
theorem o214_276 : decode prog_72_method_14_code 276 = .ok (.iinc 10 1, 3) := by decide +kernel
theorem o214_279 : decode prog_72_method_14_code 279 = .ok (.goto (-33), 3) := by decide +kernel
theorem own_f23 {ux vx wx uy vy wy : UInt64} (hPx : own_P ux vx wx) (hPy : own_P uy vy wy) : FP.dmul FP.dconst1 (0 : UInt64) = (0 : UInt64) := by decide +kernel
theorem own_f23n {ux vx wx uy vy wy : UInt64} (hPx : own_P ux vx wx) (hPy : own_P uy vy wy) : Jvm.Free.Fl.NoNaN64 (FP.dmul FP.dconst1 (0 : UInt64)) := by rw [own_f23 hPx hPy]; (unfold Jvm.Free.Fl.NoNaN64; decide +kernel)
theorem own_f24 {ux vx wx uy vy wy : UInt64} (hPx : own_P ux vx wx) (hPy : own_P uy vy wy) : FP.dsub uy (0 : UInt64) = uy := by rcases hPy with ⟨rfl, rfl, rfl⟩ | ⟨rfl, rfl, rfl⟩ | ⟨rfl, rfl, rfl⟩ | ⟨rfl, rfl, rfl⟩ <;> decide +kernel
theorem own_f24n {ux vx wx uy vy wy : UInt64} (hPx : own_P ux vx wx) (hPy : own_P uy vy wy) : Jvm.Free.Fl.NoNaN64 (FP.dsub uy (0 : UInt64)) := by rw [own_f24 hPx hPy]; rcases hPy with ⟨rfl, rfl, rfl⟩ | ⟨rfl, rfl, rfl⟩ | ⟨rfl, rfl, rfl⟩ | ⟨rfl, rfl, rfl⟩ <;> (unfold Jvm.Free.Fl.NoNaN64; decide +kernel)
theorem own_f25 {ux vx wx uy vy wy : UInt64} (hPx : own_P ux vx wx) (hPy : own_P uy vy wy) : FP.dsub FP.dconst0 (4607182418800017408 : UInt64) = (13830554455654793216 : UInt64) := by decide +kernel
theorem own_f25n {ux vx wx uy vy wy : UInt64} (hPx : own_P ux vx wx) (hPy : own_P uy vy wy) : Jvm.Free.Fl.NoNaN64 (FP.dsub FP.dconst0 (4607182418800017408 : UInt64)) := by rw [own_f25 hPx hPy]; (unfold Jvm.Free.Fl.NoNaN64; decide +kernel)
theorem own_f26 {ux vx wx uy vy wy : UInt64} (hPx : own_P ux vx wx) (hPy : own_P uy vy wy) : FP.dsub FP.dconst1 (0 : UInt64) = (4607182418800017408 : UInt64) := by decide +kernel
theorem own_f26n {ux vx wx uy vy wy : UInt64} (hPx : own_P ux vx wx) (hPy : own_P uy vy wy) : Jvm.Free.Fl.NoNaN64 (FP.dsub FP.dconst1 (0 : UInt64)) := by rw [own_f26 hPx hPy]; (unfold Jvm.Free.Fl.NoNaN64; decide +kernel)
theorem own_f27 {ux vx wx uy vy wy : UInt64} (hPx : own_P ux vx wx) (hPy : own_P uy vy wy) : FP.ddiv (0 : UInt64) uy = (0 : UInt64) := by rcases hPy with ⟨rfl, rfl, rfl⟩ | ⟨rfl, rfl, rfl⟩ | ⟨rfl, rfl, rfl⟩ | ⟨rfl, rfl, rfl⟩ <;> decide +kernel
theorem own_f27n {ux vx wx uy vy wy : UInt64} (hPx : own_P ux vx wx) (hPy : own_P uy vy wy) : Jvm.Free.Fl.NoNaN64 (FP.ddiv (0 : UInt64) uy) := by rw [own_f27 hPx hPy]; (unfold Jvm.Free.Fl.NoNaN64; decide +kernel)
theorem own_f28 {ux vx wx uy vy wy : UInt64} (hPx : own_P ux vx wx) (hPy : own_P uy vy wy) : FP.ddiv (13830554455654793216 : UInt64) uy = wy := by rcases hPy with ⟨rfl, rfl, rfl⟩ | ⟨rfl, rfl, rfl⟩ | ⟨rfl, rfl, rfl⟩ | ⟨rfl, rfl, rfl⟩ <;> decide +kernel
theorem own_f28n {ux vx wx uy vy wy : UInt64} (hPx : own_P ux vx wx) (hPy : own_P uy vy wy) : Jvm.Free.Fl.NoNaN64 (FP.ddiv (13830554455654793216 : UInt64) uy) := by rw [own_f28 hPx hPy]; rcases hPy with ⟨rfl, rfl, rfl⟩ | ⟨rfl, rfl, rfl⟩ | ⟨rfl, rfl, rfl⟩ | ⟨rfl, rfl, rfl⟩ <;> (unfold Jvm.Free.Fl.NoNaN64; decide +kernel)
theorem own_f29 {ux vx wx uy vy wy : UInt64} (hPx : own_P ux vx wx) (hPy : own_P uy vy wy) : FP.ddiv (4607182418800017408 : UInt64) uy = vy := by rcases hPy with ⟨rfl, rfl, rfl⟩ | ⟨rfl, rfl, rfl⟩ | ⟨rfl, rfl, rfl⟩ | ⟨rfl, rfl, rfl⟩ <;> decide +kernel
theorem own_f29n {ux vx wx uy vy wy : UInt64} (hPx : own_P ux vx wx) (hPy : own_P uy vy wy) : Jvm.Free.Fl.NoNaN64 (FP.ddiv (4607182418800017408 : UInt64) uy) := by rw [own_f29 hPx hPy]; rcases hPy with ⟨rfl, rfl, rfl⟩ | ⟨rfl, rfl, rfl⟩ | ⟨rfl, rfl, rfl⟩ | ⟨rfl, rfl, rfl⟩ <;> (unfold Jvm.Free.Fl.NoNaN64; decide +kernel)
theorem own_ef_inv (m : MethodId) (x0 : Addr) : entryFrame m #[(.ref x0)] 11 = mkF m 0 #[(oR x0), .unset, .unset, .unset, .unset, .unset, .unset, .unset, .unset, .unset, .unset] [] := by first | (simp [entryFrame, mkF, argsToLocals, Value.category]; done) | rfl
def own_Q_inv (Z : State) (sx : Addr) (co y0 y1 cs bc li ba iv i0 i1 vl el m0 m1 pb : Addr) (kco ky0 ky1 kcs kbc kli kba kiv ki0 ki1 kvl kel km0 km1 kpb : ClassId) (ux vx wx uy vy wy dl dm mt00 mt01 mt10 mt11 q00 q01 q10 q11 : UInt64) (b0 b1 : Int32) (vco : List Value) (h0 : Heap) (n0 : Nat) (v : Option Value) (h : Heap) (L : List Loc) : Prop := v = some (.int 1) ∧ Fr n0 L ∧ Keep h0 h [el, m0, m1, i0, i1, vl] ∧ Arv Z h vl kvl .double (2 : Int32) [(.double (own_tot q00 q01 dl dm)), (.double (own_tot q10 q11 dl dm))] (.double 0)
set_option maxRecDepth 65536 in
set_option maxHeartbeats 40000000 in
theorem own_rm_inv (l : Launch) (Z : State) (a0 : Array Value) (hw : ∀ d ∈ tables_1, d.before a0 Z = true) (ws : List Jvm.Cond) (sx : Addr) (co y0 y1 cs bc li ba iv i0 i1 vl el m0 m1 pb : Addr) (kco ky0 ky1 kcs kbc kli kba kiv ki0 ki1 kvl kel km0 km1 kpb : ClassId) (ux vx wx uy vy wy dl dm mt00 mt01 mt10 mt11 q00 q01 q10 q11 : UInt64) (b0 b1 : Int32) (vco : List Value) (h0 : Heap) (n0 : Nat) (Z0 : n0 ≤ h0.size) (hnd : ([sx, co, y0, y1, cs, bc, li, ba, iv, i0, i1, vl, el, m0, m1, pb] : List Addr).Nodup) (hPx : own_P ux vx wx) (hPy : own_P uy vy wy) (g_el : n0 ≤ el) (g_m0 : n0 ≤ m0) (g_m1 : n0 ≤ m1) (g_i0 : n0 ≤ i0) (g_i1 : n0 ≤ i1) (g_vl : n0 ≤ vl) (ok0 : own_ok q00 q01 dl dm) (ok1 : own_ok q10 q11 dl dm) (Oel : OvrA Z kel .double "[D") (hsel : (mt00 = ux ∧ mt01 = FP.dconst0 ∧ mt10 = FP.dconst0 ∧ mt11 = uy ∧ q00 = vx ∧ q01 = (0 : UInt64) ∧ q10 = (0 : UInt64) ∧ q11 = vy) ∨ (mt00 = FP.dconst0 ∧ mt01 = ux ∧ mt10 = uy ∧ mt11 = FP.dconst0 ∧ q00 = (0 : UInt64) ∧ q01 = vy ∧ q10 = vx ∧ q11 = (0 : UInt64)) ∨ (mt00 = FP.dconst1 ∧ mt01 = FP.dconst0 ∧ mt10 = FP.dconst1 ∧ mt11 = uy ∧ q00 = (4607182418800017408 : UInt64) ∧ q01 = (0 : UInt64) ∧ q10 = wy ∧ q11 = vy)) (hb0 : ¬ b0 < 0 ∧ b0 < 16) (hb1 : ¬ b1 < 0 ∧ b1 < 16) (hy0 : vco.getD b0.toNatClampNeg .null = .ref y0) (hy1 : vco.getD b1.toNatClampNeg .null = .ref y1) (Gp0 : Exa Z h0 sx "com/example/composure/composure/select/Simplex") (Gp1 : Fld Z h0 sx "com/example/composure/composure/select/Simplex" "rows" "I" (.int 2)) (Gp2 : Fld Z h0 sx "com/example/composure/composure/select/Simplex" "elimination" "[[D" (.ref el)) (Gp3 : Fld Z h0 sx "com/example/composure/composure/select/Simplex" "columns" "[[D" (.ref co)) (Gp4 : Fld Z h0 sx "com/example/composure/composure/select/Simplex" "basis" "[I" (.ref ba)) (Gp5 : Fld Z h0 sx "com/example/composure/composure/select/Simplex" "inverse" "[[D" (.ref iv)) (Gp6 : Fld Z h0 sx "com/example/composure/composure/select/Simplex" "limits" "[D" (.ref li)) (Gp7 : Fld Z h0 sx "com/example/composure/composure/select/Simplex" "values" "[D" (.ref vl)) (Gp8 : Arv Z h0 el kel (.array .double) (2 : Int32) [(.ref m0), (.ref m1)] .null) (Gp9 : Arv Z h0 co kco (.array .double) (16 : Int32) vco .null) (Gp10 : Arv Z h0 y0 ky0 .double (2 : Int32) [(.double mt00), (.double mt10)] (.double 0)) (Gp11 : Arv Z h0 y1 ky1 .double (2 : Int32) [(.double mt01), (.double mt11)] (.double 0)) (Gp12 : Arv Z h0 ba kba .int (2 : Int32) [(.int b0), (.int b1)] (.int 0)) (Gp13 : Arv Z h0 m0 km0 .double (4 : Int32) [(.double 0), (.double 0), (.double 0), (.double 0)] (.double 0)) (Gp14 : Arv Z h0 m1 km1 .double (4 : Int32) [(.double 0), (.double 0), (.double 0), (.double 0)] (.double 0)) (Gp15 : Exa Z h0 m0 "[D") (Gp16 : Exa Z h0 m1 "[D") (Gp17 : Arv Z h0 iv kiv (.array .double) (2 : Int32) [(.ref i0), (.ref i1)] .null) (Gp18 : Arv Z h0 i0 ki0 .double (2 : Int32) [(.double 0), (.double 0)] (.double 0)) (Gp19 : Arv Z h0 i1 ki1 .double (2 : Int32) [(.double 0), (.double 0)] (.double 0)) (Gp20 : Arv Z h0 li kli .double (2 : Int32) [(.double dl), (.double dm)] (.double 0)) (Gp21 : Arv Z h0 vl kvl .double (2 : Int32) [(.double 0), (.double 0)] (.double 0)) :
    MetFree l (⟨"com/example/composure/composure/select/Simplex", "invert", "()Z"⟩ : MethodName) (head1 (Jvm.Cond.code (⟨"com/example/composure/composure/select/Simplex", "invert", "()Z"⟩ : MethodName) prog_72_method_14_code 11 (some .boolean) :: ws) ({ frames := 2, cells := 0, slots := 0, locals := 64 } : Room)) (fun a U => a = #[(.ref sx)] ∧ Z.Warmed39 U.vm ∧ U.heap = h0) (fun _ _ _ _ _ => True) (fun _ U o U' => ∃ v L, o = .returned v ∧ own_Q_inv Z sx co y0 y1 cs bc li ba iv i0 i1 vl el m0 m1 pb kco ky0 ky1 kcs kbc kli kba kiv ki0 ki1 kvl kel km0 km1 kpb ux vx wx uy vy wy dl dm mt00 mt01 mt10 mt11 q00 q01 q10 q11 b0 b1 vco h0 n0 v U'.heap L ∧ FrameEnd U o U' L ({ frames := 2, cells := 0, slots := 0, locals := 64 } : Room).cells ({ frames := 2, cells := 0, slots := 0, locals := 64 } : Room).slots) := by
  refine MetFree.of_bodySF (plainFor_of_name own_pn_com_example_composure_composure_select_Simplex) hisR ?_
  intro p e s m args below meth c s₁ Bd hml0 hP hKq_
  obtain ⟨rfl, hZ, hh⟩ := hP
  have hx := Bd.exec
  have hby := Bd.bytes
  have hml : c.maxLocals = 11 := hml0
  have hown : s.vm.findClass "com/example/composure/composure/select/Simplex" = some m.cls := findClass_of_methodNamed Bd.named
  have hnm := (name_of_methodNamed Bd.named Bd.method).1
  have ow7 := hw _ (List.mem_of_getElem? (i := 7) rfl)
  have ow16 := hw _ (List.mem_of_getElem? (i := 16) rfl)
  have ow25 := hw _ (List.mem_of_getElem? (i := 25) rfl)
  have ow35 := hw _ (List.mem_of_getElem? (i := 35) rfl)
  have ow37 := hw _ (List.mem_of_getElem? (i := 37) rfl)
  have ow40 := hw _ (List.mem_of_getElem? (i := 40) rfl)
  have ow42 := hw _ (List.mem_of_getElem? (i := 42) rfl)
  have ow44 := hw _ (List.mem_of_getElem? (i := 44) rfl)
  have ow52 := hw _ (List.mem_of_getElem? (i := 52) rfl)
  have ow57 := hw _ (List.mem_of_getElem? (i := 57) rfl)
  have ow70 := hw _ (List.mem_of_getElem? (i := 70) rfl)
  have ow71 := hw _ (List.mem_of_getElem? (i := 71) rfl)
  have ow72 := hw _ (List.mem_of_getElem? (i := 72) rfl)
  have ow76 := hw _ (List.mem_of_getElem? (i := 76) rfl)
  have ow77 := hw _ (List.mem_of_getElem? (i := 77) rfl)
  have ow78 := hw _ (List.mem_of_getElem? (i := 78) rfl)
  have ow79 := hw _ (List.mem_of_getElem? (i := 79) rfl)
  have ow80 := hw _ (List.mem_of_getElem? (i := 80) rfl)
  have ow81 := hw _ (List.mem_of_getElem? (i := 81) rfl)
  have ow82 := hw _ (List.mem_of_getElem? (i := 82) rfl)
  have ow83 := hw _ (List.mem_of_getElem? (i := 83) rfl)
  have ow84 := hw _ (List.mem_of_getElem? (i := 84) rfl)
  have ow85 := hw _ (List.mem_of_getElem? (i := 85) rfl)
  have ow86 := hw _ (List.mem_of_getElem? (i := 86) rfl)
  have ow87 := hw _ (List.mem_of_getElem? (i := 87) rfl)
  have ow88 := hw _ (List.mem_of_getElem? (i := 88) rfl)
  have X0 : Stand p l e ({ frames := 2, cells := 0, slots := 0, locals := 64 } : Room) s m #[(.ref sx)] below meth c s₁ [] 0 0 := Stand.of_body Bd
  have e0 : s₁.heap = h0 := by rw [← hh, Bd.state]; rfl
  have N0 := Fr.nil n0
  have pre0 : ∀ t, Steps p.tables e below (s₁.setTop (mkF m 0 #[(oR sx), .unset, .unset, .unset, .unset, .unset, .unset, .unset, .unset, .unset, .unset] [])) t → Steps p.tables e below (s₁.setTop (entryFrame m #[(.ref sx)] 11)) t := fun t k => castTop (own_ef_inv m sx) k
  refine own_go pre0 ?_
  refine own_abs ?_
  intro Pf hPf
  have od_i0_i1 : i0 ≠ i1 := (own_nd hnd (i := 9) (j := 10) rfl rfl (by decide))
  have od_i0_vl : i0 ≠ vl := (own_nd hnd (i := 9) (j := 11) rfl rfl (by decide))
  have od_i0_el : i0 ≠ el := (own_nd hnd (i := 9) (j := 12) rfl rfl (by decide))
  have od_i0_m0 : i0 ≠ m0 := (own_nd hnd (i := 9) (j := 13) rfl rfl (by decide))
  have od_i0_m1 : i0 ≠ m1 := (own_nd hnd (i := 9) (j := 14) rfl rfl (by decide))
  have od_i1_vl : i1 ≠ vl := (own_nd hnd (i := 10) (j := 11) rfl rfl (by decide))
  have od_i1_el : i1 ≠ el := (own_nd hnd (i := 10) (j := 12) rfl rfl (by decide))
  have od_i1_m0 : i1 ≠ m0 := (own_nd hnd (i := 10) (j := 13) rfl rfl (by decide))
  have od_i1_m1 : i1 ≠ m1 := (own_nd hnd (i := 10) (j := 14) rfl rfl (by decide))
  have od_vl_el : vl ≠ el := (own_nd hnd (i := 11) (j := 12) rfl rfl (by decide))
  have od_vl_m0 : vl ≠ m0 := (own_nd hnd (i := 11) (j := 13) rfl rfl (by decide))
  have od_vl_m1 : vl ≠ m1 := (own_nd hnd (i := 11) (j := 14) rfl rfl (by decide))
  have od_el_m0 : el ≠ m0 := (own_nd hnd (i := 12) (j := 13) rfl rfl (by decide))
  have od_el_m1 : el ≠ m1 := (own_nd hnd (i := 12) (j := 14) rfl rfl (by decide))
  have od_m0_m1 : m0 ≠ m1 := (own_nd hnd (i := 13) (j := 14) rfl rfl (by decide))
  have nn_ba : ba ∉ ([el, m0, m1, i0, i1, vl] : List Addr) := (ninS (own_nd hnd (i := 7) (j := 12) rfl rfl (by decide)) (ninS (own_nd hnd (i := 7) (j := 13) rfl rfl (by decide)) (ninS (own_nd hnd (i := 7) (j := 14) rfl rfl (by decide)) (ninS (own_nd hnd (i := 7) (j := 9) rfl rfl (by decide)) (ninS (own_nd hnd (i := 7) (j := 10) rfl rfl (by decide)) (ninS (own_nd hnd (i := 7) (j := 11) rfl rfl (by decide)) nin0))))))
  have nn_co : co ∉ ([el, m0, m1, i0, i1, vl] : List Addr) := (ninS (own_nd hnd (i := 1) (j := 12) rfl rfl (by decide)) (ninS (own_nd hnd (i := 1) (j := 13) rfl rfl (by decide)) (ninS (own_nd hnd (i := 1) (j := 14) rfl rfl (by decide)) (ninS (own_nd hnd (i := 1) (j := 9) rfl rfl (by decide)) (ninS (own_nd hnd (i := 1) (j := 10) rfl rfl (by decide)) (ninS (own_nd hnd (i := 1) (j := 11) rfl rfl (by decide)) nin0))))))
  have nn_iv : iv ∉ ([el, m0, m1, i0, i1, vl] : List Addr) := (ninS (own_nd hnd (i := 8) (j := 12) rfl rfl (by decide)) (ninS (own_nd hnd (i := 8) (j := 13) rfl rfl (by decide)) (ninS (own_nd hnd (i := 8) (j := 14) rfl rfl (by decide)) (ninS (own_nd hnd (i := 8) (j := 9) rfl rfl (by decide)) (ninS (own_nd hnd (i := 8) (j := 10) rfl rfl (by decide)) (ninS (own_nd hnd (i := 8) (j := 11) rfl rfl (by decide)) nin0))))))
  have nn_li : li ∉ ([el, m0, m1, i0, i1, vl] : List Addr) := (ninS (own_nd hnd (i := 6) (j := 12) rfl rfl (by decide)) (ninS (own_nd hnd (i := 6) (j := 13) rfl rfl (by decide)) (ninS (own_nd hnd (i := 6) (j := 14) rfl rfl (by decide)) (ninS (own_nd hnd (i := 6) (j := 9) rfl rfl (by decide)) (ninS (own_nd hnd (i := 6) (j := 10) rfl rfl (by decide)) (ninS (own_nd hnd (i := 6) (j := 11) rfl rfl (by decide)) nin0))))))
  have nn_sx : sx ∉ ([el, m0, m1, i0, i1, vl] : List Addr) := (ninS (own_nd hnd (i := 0) (j := 12) rfl rfl (by decide)) (ninS (own_nd hnd (i := 0) (j := 13) rfl rfl (by decide)) (ninS (own_nd hnd (i := 0) (j := 14) rfl rfl (by decide)) (ninS (own_nd hnd (i := 0) (j := 9) rfl rfl (by decide)) (ninS (own_nd hnd (i := 0) (j := 10) rfl rfl (by decide)) (ninS (own_nd hnd (i := 0) (j := 11) rfl rfl (by decide)) nin0))))))
  have nn_y0 : y0 ∉ ([el, m0, m1, i0, i1, vl] : List Addr) := (ninS (own_nd hnd (i := 2) (j := 12) rfl rfl (by decide)) (ninS (own_nd hnd (i := 2) (j := 13) rfl rfl (by decide)) (ninS (own_nd hnd (i := 2) (j := 14) rfl rfl (by decide)) (ninS (own_nd hnd (i := 2) (j := 9) rfl rfl (by decide)) (ninS (own_nd hnd (i := 2) (j := 10) rfl rfl (by decide)) (ninS (own_nd hnd (i := 2) (j := 11) rfl rfl (by decide)) nin0))))))
  have nn_y1 : y1 ∉ ([el, m0, m1, i0, i1, vl] : List Addr) := (ninS (own_nd hnd (i := 3) (j := 12) rfl rfl (by decide)) (ninS (own_nd hnd (i := 3) (j := 13) rfl rfl (by decide)) (ninS (own_nd hnd (i := 3) (j := 14) rfl rfl (by decide)) (ninS (own_nd hnd (i := 3) (j := 9) rfl rfl (by decide)) (ninS (own_nd hnd (i := 3) (j := 10) rfl rfl (by decide)) (ninS (own_nd hnd (i := 3) (j := 11) rfl rfl (by decide)) nin0))))))
  refine own_go (A := oW p e below s₁ (oF_inv m 1 (oR sx) .unset .unset .unset .unset .unset .unset .unset .unset .unset .unset [(.ref sx)])) (fun t k => by
    refine XS.aloadN X0.here hx rfl (hb hby o214_0) rfl rfl ?_
    exact k) ?_
  obtain ⟨T1, X1, e1, st1⟩ := getF X0 hx hZ hown (host := "") (Or.inl ow44) Via.refl e0 Gp2 (g := (oF_inv m 1 (oR sx) .unset .unset .unset .unset .unset .unset .unset .unset .unset .unset [(.ref sx)])) rfl rfl (hb hby o214_1)
  refine own_go st1 ?_
  refine own_go (A := oW p e below T1 (oF_inv m 9 (oR sx) (oR el) (oi 0) .unset .unset .unset .unset .unset .unset .unset .unset [(.ref sx), (.int 0)])) (fun t k => by
    refine XS.astoreN X1.here hx rfl (hb hby o214_4) rfl rfl (l' := #[(oR sx), (oR el), .unset, .unset, .unset, .unset, .unset, .unset, .unset, .unset, .unset]) rfl ?_
    refine XS.iconst X1.here hx rfl (hb hby o214_5) ?_
    refine XS.istoreN X1.here hx rfl (hb hby o214_6) rfl (l' := #[(oR sx), (oR el), (oi 0), .unset, .unset, .unset, .unset, .unset, .unset, .unset, .unset]) rfl ?_
    refine XS.iloadN X1.here hx rfl (hb hby o214_7) rfl ?_
    refine XS.aloadN X1.here hx rfl (hb hby o214_8) rfl rfl ?_
    exact k) ?_
  obtain ⟨T2, X2, e2, st2⟩ := getF X1 hx hZ hown (host := "") (Or.inl ow25) Via.refl e1 Gp1 (g := (oF_inv m 9 (oR sx) (oR el) (oi 0) .unset .unset .unset .unset .unset .unset .unset .unset [(.ref sx), (.int 0)])) rfl rfl (hb hby o214_9)
  refine own_go st2 ?_
  refine own_go (A := oW p e below T2 (oF_inv m 19 (oR sx) (oR el) (oi 0) (oi 0) .unset .unset .unset .unset .unset .unset .unset [(.ref sx), (.int 0)])) (fun t k => by
    refine XS.icmpNo X2.here hx rfl (hb hby o214_12) rfl (tlt (by decide : (0 : Int32) < (2 : Int32))).2.1 ?_
    refine XS.iconst X2.here hx rfl (hb hby o214_15) ?_
    refine XS.istoreN X2.here hx rfl (hb hby o214_16) rfl (l' := #[(oR sx), (oR el), (oi 0), (oi 0), .unset, .unset, .unset, .unset, .unset, .unset, .unset]) rfl ?_
    refine XS.iloadN X2.here hx rfl (hb hby o214_17) rfl ?_
    refine XS.aloadN X2.here hx rfl (hb hby o214_18) rfl rfl ?_
    exact k) ?_
  obtain ⟨T3, X3, e3, st3⟩ := getF X2 hx hZ hown (host := "") (Or.inl ow25) Via.refl e2 Gp1 (g := (oF_inv m 19 (oR sx) (oR el) (oi 0) (oi 0) .unset .unset .unset .unset .unset .unset .unset [(.ref sx), (.int 0)])) rfl rfl (hb hby o214_19)
  refine own_go st3 ?_
  refine own_go (A := oW p e below T3 (oF_inv m 30 (oR sx) (oR el) (oi 0) (oi 0) .unset .unset .unset .unset .unset .unset .unset [(.ref sx), (.int 0), (.ref m0)])) (fun t k => by
    refine XS.icmpNo X3.here hx rfl (hb hby o214_22) rfl (tlt (by decide : (0 : Int32) < (2 : Int32))).2.1 ?_
    show oW p e below T3 (oF_inv m 25 (oR sx) (oR el) (oi 0) (oi 0) .unset .unset .unset .unset .unset .unset .unset []) _
    refine XS.aloadN X3.here hx rfl (hb hby o214_25) rfl rfl ?_
    refine XS.iloadN X3.here hx rfl (hb hby o214_26) rfl ?_
    refine own_ldA X3 hx hZ e3 Gp8 ⟨by decide, by decide⟩ (v := (.ref m0)) rfl (g := (oF_inv m 27 (oR sx) (oR el) (oi 0) (oi 0) .unset .unset .unset .unset .unset .unset .unset [(.int 0), (.ref el)])) rfl rfl (hb hby o214_27) _ ?_
    refine XS.iloadN X3.here hx rfl (hb hby o214_28) rfl ?_
    refine XS.aloadN X3.here hx rfl (hb hby o214_29) rfl rfl ?_
    exact k) ?_
  obtain ⟨T4, X4, e4, st4⟩ := getF X3 hx hZ hown (host := "") (Or.inl ow16) Via.refl e3 Gp3 (g := (oF_inv m 30 (oR sx) (oR el) (oi 0) (oi 0) .unset .unset .unset .unset .unset .unset .unset [(.ref sx), (.int 0), (.ref m0)])) rfl rfl (hb hby o214_30)
  refine own_go st4 ?_
  refine own_go (A := oW p e below T4 (oF_inv m 34 (oR sx) (oR el) (oi 0) (oi 0) .unset .unset .unset .unset .unset .unset .unset [(.ref sx), (.ref co), (.int 0), (.ref m0)])) (fun t k => by
    refine XS.aloadN X4.here hx rfl (hb hby o214_33) rfl rfl ?_
    exact k) ?_
  obtain ⟨T5, X5, e5, st5⟩ := getF X4 hx hZ hown (host := "") (Or.inl ow37) Via.refl e4 Gp4 (g := (oF_inv m 34 (oR sx) (oR el) (oi 0) (oi 0) .unset .unset .unset .unset .unset .unset .unset [(.ref sx), (.ref co), (.int 0), (.ref m0)])) rfl rfl (hb hby o214_34)
  refine own_go st5 ?_
  refine own_go (A := oW p e below T5 (oF_inv m 42 (oR sx) (oR el) (oi 0) (oi 0) .unset .unset .unset .unset .unset .unset .unset [(.double mt00), (.int 0), (.ref m0)])) (fun t k => by
    refine XS.iloadN X5.here hx rfl (hb hby o214_37) rfl ?_
    refine own_ldI X5 hx hZ e5 Gp12 ⟨by decide, by decide⟩ (v := (.int b0)) rfl (g := (oF_inv m 38 (oR sx) (oR el) (oi 0) (oi 0) .unset .unset .unset .unset .unset .unset .unset [(.int 0), (.ref ba), (.ref co), (.int 0), (.ref m0)])) rfl rfl (hb hby o214_38) _ ?_
    refine own_ldA X5 hx hZ e5 Gp9 hb0 (v := (.ref y0)) hy0 (g := (oF_inv m 39 (oR sx) (oR el) (oi 0) (oi 0) .unset .unset .unset .unset .unset .unset .unset [(.int b0), (.ref co), (.int 0), (.ref m0)])) rfl rfl (hb hby o214_39) _ ?_
    refine XS.iloadN X5.here hx rfl (hb hby o214_40) rfl ?_
    refine own_ldD X5 hx hZ e5 Gp10 ⟨by decide, by decide⟩ (v := (.double mt00)) rfl (g := (oF_inv m 41 (oR sx) (oR el) (oi 0) (oi 0) .unset .unset .unset .unset .unset .unset .unset [(.int 0), (.ref y0), (.int 0), (.ref m0)])) rfl rfl (hb hby o214_41) _ ?_
    exact k) ?_
  obtain ⟨T6, h6, X6, e6, W6, U6, st6⟩ := own_stD X5 hx hZ e5 Gp13 (j := (0 : Int32)) ⟨by decide, by decide⟩ 0 rfl (Nat.le_of_ble_eq_true rfl) (g := (oF_inv m 42 (oR sx) (oR el) (oi 0) (oi 0) .unset .unset .unset .unset .unset .unset .unset [(.double mt00), (.int 0), (.ref m0)])) rfl rfl (hb hby o214_42)
  refine own_go st6 ?_
  have V6 : Arv Z h6 m0 km0 .double (4 : Int32) [(.double mt00), (.double 0), (.double 0), (.double 0)] (.double 0) := U6
  have f6_8 : Arv Z h6 el kel (.array .double) (2 : Int32) [(.ref m0), (.ref m1)] .null := Gp8.other W6 (od_el_m0)
  have f6_14 : Arv Z h6 m1 km1 .double (4 : Int32) [(.double 0), (.double 0), (.double 0), (.double 0)] (.double 0) := Gp14.other W6 (od_m0_m1.symm)
  have f6_18 : Arv Z h6 i0 ki0 .double (2 : Int32) [(.double 0), (.double 0)] (.double 0) := Gp18.other W6 (od_i0_m0)
  have f6_19 : Arv Z h6 i1 ki1 .double (2 : Int32) [(.double 0), (.double 0)] (.double 0) := Gp19.other W6 (od_i1_m0)
  have f6_21 : Arv Z h6 vl kvl .double (2 : Int32) [(.double 0), (.double 0)] (.double 0) := Gp21.other W6 (od_vl_m0)
  have N6 := Fr.snoc X6 N0 g_m0
  have Z6 : n0 ≤ h6.size := Nat.le_trans Z0 (Keep.of_wr W6).1
  have K6 : Keep h0 h6 [el, m0, m1, i0, i1, vl] := (Keep.refl h0 [el, m0, m1, i0, i1, vl]).wr W6 (Or.inl (List.mem_of_getElem? (i := 1) rfl))
  refine own_go (A := oW p e below T6 (oF_inv m 19 (oR sx) (oR el) (oi 0) (oi 1) .unset .unset .unset .unset .unset .unset .unset [(.ref sx), (.int 1)])) (fun t k => by
    refine XS.iinc X6.here hx rfl (hb hby o214_43) rfl (l' := #[(oR sx), (oR el), (oi 0), (oi 1), .unset, .unset, .unset, .unset, .unset, .unset, .unset]) rfl ?_
    show oW p e below T6 (oF_inv m 46 (oR sx) (oR el) (oi 0) (oi 1) .unset .unset .unset .unset .unset .unset .unset []) _
    refine XS.goto X6.here hx rfl (pc0 := 46) (pc' := 17) rfl (hb hby o214_46) (by decide) (by decide) ?_
    refine XS.iloadN X6.here hx rfl (hb hby o214_17) rfl ?_
    refine XS.aloadN X6.here hx rfl (hb hby o214_18) rfl rfl ?_
    exact k) ?_
  obtain ⟨T7, X7, e7, st7⟩ := getF X6 hx hZ hown (host := "") (Or.inl ow25) Via.refl e6 (Gp1.keep K6 nn_sx) (g := (oF_inv m 19 (oR sx) (oR el) (oi 0) (oi 1) .unset .unset .unset .unset .unset .unset .unset [(.ref sx), (.int 1)])) rfl rfl (hb hby o214_19)
  refine own_go st7 ?_
  refine own_go (A := oW p e below T7 (oF_inv m 30 (oR sx) (oR el) (oi 0) (oi 1) .unset .unset .unset .unset .unset .unset .unset [(.ref sx), (.int 1), (.ref m0)])) (fun t k => by
    refine XS.icmpNo X7.here hx rfl (hb hby o214_22) rfl (tlt (by decide : (1 : Int32) < (2 : Int32))).2.1 ?_
    refine XS.aloadN X7.here hx rfl (hb hby o214_25) rfl rfl ?_
    refine XS.iloadN X7.here hx rfl (hb hby o214_26) rfl ?_
    show oW p e below T7 (oF_inv m 27 (oR sx) (oR el) (oi 0) (oi 1) .unset .unset .unset .unset .unset .unset .unset [(.int 0), (.ref el)]) _
    refine own_ldA X7 hx hZ e7 f6_8 ⟨by decide, by decide⟩ (v := (.ref m0)) rfl (g := (oF_inv m 27 (oR sx) (oR el) (oi 0) (oi 1) .unset .unset .unset .unset .unset .unset .unset [(.int 0), (.ref el)])) rfl rfl (hb hby o214_27) _ ?_
    refine XS.iloadN X7.here hx rfl (hb hby o214_28) rfl ?_
    refine XS.aloadN X7.here hx rfl (hb hby o214_29) rfl rfl ?_
    exact k) ?_
  obtain ⟨T8, X8, e8, st8⟩ := getF X7 hx hZ hown (host := "") (Or.inl ow16) Via.refl e7 (Gp3.keep K6 nn_sx) (g := (oF_inv m 30 (oR sx) (oR el) (oi 0) (oi 1) .unset .unset .unset .unset .unset .unset .unset [(.ref sx), (.int 1), (.ref m0)])) rfl rfl (hb hby o214_30)
  refine own_go st8 ?_
  refine own_go (A := oW p e below T8 (oF_inv m 34 (oR sx) (oR el) (oi 0) (oi 1) .unset .unset .unset .unset .unset .unset .unset [(.ref sx), (.ref co), (.int 1), (.ref m0)])) (fun t k => by
    refine XS.aloadN X8.here hx rfl (hb hby o214_33) rfl rfl ?_
    exact k) ?_
  obtain ⟨T9, X9, e9, st9⟩ := getF X8 hx hZ hown (host := "") (Or.inl ow37) Via.refl e8 (Gp4.keep K6 nn_sx) (g := (oF_inv m 34 (oR sx) (oR el) (oi 0) (oi 1) .unset .unset .unset .unset .unset .unset .unset [(.ref sx), (.ref co), (.int 1), (.ref m0)])) rfl rfl (hb hby o214_34)
  refine own_go st9 ?_
  refine own_go (A := oW p e below T9 (oF_inv m 42 (oR sx) (oR el) (oi 0) (oi 1) .unset .unset .unset .unset .unset .unset .unset [(.double mt01), (.int 1), (.ref m0)])) (fun t k => by
    refine XS.iloadN X9.here hx rfl (hb hby o214_37) rfl ?_
    refine own_ldI X9 hx hZ e9 (Gp12.keep K6 nn_ba) ⟨by decide, by decide⟩ (v := (.int b1)) rfl (g := (oF_inv m 38 (oR sx) (oR el) (oi 0) (oi 1) .unset .unset .unset .unset .unset .unset .unset [(.int 1), (.ref ba), (.ref co), (.int 1), (.ref m0)])) rfl rfl (hb hby o214_38) _ ?_
    show oW p e below T9 (oF_inv m 39 (oR sx) (oR el) (oi 0) (oi 1) .unset .unset .unset .unset .unset .unset .unset [(.int b1), (.ref co), (.int 1), (.ref m0)]) _
    refine own_ldA X9 hx hZ e9 (Gp9.keep K6 nn_co) hb1 (v := (.ref y1)) hy1 (g := (oF_inv m 39 (oR sx) (oR el) (oi 0) (oi 1) .unset .unset .unset .unset .unset .unset .unset [(.int b1), (.ref co), (.int 1), (.ref m0)])) rfl rfl (hb hby o214_39) _ ?_
    refine XS.iloadN X9.here hx rfl (hb hby o214_40) rfl ?_
    refine own_ldD X9 hx hZ e9 (Gp11.keep K6 nn_y1) ⟨by decide, by decide⟩ (v := (.double mt01)) rfl (g := (oF_inv m 41 (oR sx) (oR el) (oi 0) (oi 1) .unset .unset .unset .unset .unset .unset .unset [(.int 0), (.ref y1), (.int 1), (.ref m0)])) rfl rfl (hb hby o214_41) _ ?_
    exact k) ?_
  obtain ⟨T10, h10, X10, e10, W10, U10, st10⟩ := own_stD X9 hx hZ e9 V6 (j := (1 : Int32)) ⟨by decide, by decide⟩ 1 rfl (Nat.le_of_ble_eq_true rfl) (g := (oF_inv m 42 (oR sx) (oR el) (oi 0) (oi 1) .unset .unset .unset .unset .unset .unset .unset [(.double mt01), (.int 1), (.ref m0)])) rfl rfl (hb hby o214_42)
  refine own_go st10 ?_
  have V10 : Arv Z h10 m0 km0 .double (4 : Int32) [(.double mt00), (.double mt01), (.double 0), (.double 0)] (.double 0) := U10
  have f10_8 : Arv Z h10 el kel (.array .double) (2 : Int32) [(.ref m0), (.ref m1)] .null := f6_8.other W10 (od_el_m0)
  have f10_13 : Arv Z h10 m1 km1 .double (4 : Int32) [(.double 0), (.double 0), (.double 0), (.double 0)] (.double 0) := f6_14.other W10 (od_m0_m1.symm)
  have f10_17 : Arv Z h10 i0 ki0 .double (2 : Int32) [(.double 0), (.double 0)] (.double 0) := f6_18.other W10 (od_i0_m0)
  have f10_18 : Arv Z h10 i1 ki1 .double (2 : Int32) [(.double 0), (.double 0)] (.double 0) := f6_19.other W10 (od_i1_m0)
  have f10_20 : Arv Z h10 vl kvl .double (2 : Int32) [(.double 0), (.double 0)] (.double 0) := f6_21.other W10 (od_vl_m0)
  have N10 := Fr.snoc X10 N6 g_m0
  have Z10 : n0 ≤ h10.size := Nat.le_trans Z6 (Keep.of_wr W10).1
  have K10 : Keep h0 h10 [el, m0, m1, i0, i1, vl] := K6.wr W10 (Or.inl (List.mem_of_getElem? (i := 1) rfl))
  refine own_go (A := oW p e below T10 (oF_inv m 19 (oR sx) (oR el) (oi 0) (oi 2) .unset .unset .unset .unset .unset .unset .unset [(.ref sx), (.int 2)])) (fun t k => by
    refine XS.iinc X10.here hx rfl (hb hby o214_43) rfl (l' := #[(oR sx), (oR el), (oi 0), (oi 2), .unset, .unset, .unset, .unset, .unset, .unset, .unset]) rfl ?_
    refine XS.goto X10.here hx rfl (pc0 := 46) (pc' := 17) rfl (hb hby o214_46) (by decide) (by decide) ?_
    refine XS.iloadN X10.here hx rfl (hb hby o214_17) rfl ?_
    show oW p e below T10 (oF_inv m 18 (oR sx) (oR el) (oi 0) (oi 2) .unset .unset .unset .unset .unset .unset .unset [(.int 2)]) _
    refine XS.aloadN X10.here hx rfl (hb hby o214_18) rfl rfl ?_
    exact k) ?_
  obtain ⟨T11, X11, e11, st11⟩ := getF X10 hx hZ hown (host := "") (Or.inl ow25) Via.refl e10 (Gp1.keep K10 nn_sx) (g := (oF_inv m 19 (oR sx) (oR el) (oi 0) (oi 2) .unset .unset .unset .unset .unset .unset .unset [(.ref sx), (.int 2)])) rfl rfl (hb hby o214_19)
  refine own_go st11 ?_
  refine own_go (A := oW p e below T11 (oF_inv m 53 (oR sx) (oR el) (oi 0) (oi 2) .unset .unset .unset .unset .unset .unset .unset [(.ref sx), (.ref m0)])) (fun t k => by
    refine XS.icmpYes X11.here hx rfl (pc0 := 22) (pc' := 49) rfl (hb hby o214_22) rfl (flt (by decide : ¬ ((2 : Int32) < (2 : Int32)))).2.1 (by decide) (by decide) ?_
    refine XS.aloadN X11.here hx rfl (hb hby o214_49) rfl rfl ?_
    refine XS.iloadN X11.here hx rfl (hb hby o214_50) rfl ?_
    refine own_ldA X11 hx hZ e11 f10_8 ⟨by decide, by decide⟩ (v := (.ref m0)) rfl (g := (oF_inv m 51 (oR sx) (oR el) (oi 0) (oi 2) .unset .unset .unset .unset .unset .unset .unset [(.int 0), (.ref el)])) rfl rfl (hb hby o214_51) _ ?_
    refine XS.aloadN X11.here hx rfl (hb hby o214_52) rfl rfl ?_
    exact k) ?_
  obtain ⟨T12, X12, e12, st12⟩ := getF X11 hx hZ hown (host := "") (Or.inl ow25) Via.refl e11 (Gp1.keep K10 nn_sx) (g := (oF_inv m 53 (oR sx) (oR el) (oi 0) (oi 2) .unset .unset .unset .unset .unset .unset .unset [(.ref sx), (.ref m0)])) rfl rfl (hb hby o214_53)
  refine own_go st12 ?_
  refine own_go (A := oW p e below T12 (oF_inv m 58 (oR sx) (oR el) (oi 0) (oi 2) .unset .unset .unset .unset .unset .unset .unset [(.ref sx), (.int 2), (.int 2), (.ref m0)])) (fun t k => by
    refine XS.iconst X12.here hx rfl (hb hby o214_56) ?_
    refine XS.aloadN X12.here hx rfl (hb hby o214_57) rfl rfl ?_
    exact k) ?_
  obtain ⟨T13, X13, e13, st13⟩ := getF X12 hx hZ hown (host := "") (Or.inl ow25) Via.refl e12 (Gp1.keep K10 nn_sx) (g := (oF_inv m 58 (oR sx) (oR el) (oi 0) (oi 2) .unset .unset .unset .unset .unset .unset .unset [(.ref sx), (.int 2), (.int 2), (.ref m0)])) rfl rfl (hb hby o214_58)
  refine own_go st13 ?_
  refine own_go (A := oW p e below T13 (oF_inv m 63 (oR sx) (oR el) (oi 0) (oi 2) .unset .unset .unset .unset .unset .unset .unset [(.double FP.dconst0), (.int 4), (.int 2), (.ref m0)])) (fun t k => by
    refine XS.imul X13.here hx rfl (hb hby o214_61) rfl ?_
    refine XS.dconst0 X13.here hx rfl (hb hby o214_62) rfl ?_
    exact k) ?_
  obtain ⟨_, _, ⟨T14, L14, k14, n14⟩, -, X14, ⟨Lc14, hQ14, l14, y14, z14⟩, st14⟩ := Jvm.LawKit.callS X13 hx (y := (⟨"java/util/Arrays", "fill", "([DIID)V"⟩ : MethodName)) hown (mvT hZ ow70) (mvT hZ ow71) (mvT hZ ow52) (mvT hZ ow72) (by decide) (backOf (W := 0) (own_rm_fillD l Z a0 hw [] m0 km0 mt00 mt01 (0 : UInt64) (0 : UInt64) h10 n0 Z10 V10 g_m0) hZ ow72 ow52 (by decide) (by decide)) (g := (oF_inv m 63 (oR sx) (oR el) (oi 0) (oi 2) .unset .unset .unset .unset .unset .unset .unset [(.double FP.dconst0), (.int 4), (.int 2), (.ref m0)])) rfl (by rw [hml]; rfl) (argsL := [(.ref m0), (.int 2), (.int 4), (.double FP.dconst0)]) (rest := []) (lenOf own_pd_285bDIID29V rfl) rfl (by show 2 * 0 + _ ≤ _; exact Nat.le_of_eq rfl) (hb hby o214_63) (fun _ _ => ⟨rfl, e13, (by decide : 0 + 0 ≤ _), (by decide : 0 + 0 ≤ _)⟩)
  dsimp only [Pt.U, Pt.locs, Pt.cells, Pt.slots] at X14 l14 y14 z14 st14 hQ14
  subst l14 y14 z14
  obtain ⟨rfl, N14q, K14q, p14_0⟩ := hQ14
  have N14 := Fr.app N10 N14q
  have f14_8 : Arv Z T14.heap el kel (.array .double) (2 : Int32) [(.ref m0), (.ref m1)] .null := f10_8.keep K14q (ninS od_el_m0 nin0)
  have f14_13 : Arv Z T14.heap m1 km1 .double (4 : Int32) [(.double 0), (.double 0), (.double 0), (.double 0)] (.double 0) := f10_13.keep K14q (ninS od_m0_m1.symm nin0)
  have f14_17 : Arv Z T14.heap i0 ki0 .double (2 : Int32) [(.double 0), (.double 0)] (.double 0) := f10_17.keep K14q (ninS od_i0_m0 nin0)
  have f14_18 : Arv Z T14.heap i1 ki1 .double (2 : Int32) [(.double 0), (.double 0)] (.double 0) := f10_18.keep K14q (ninS od_i1_m0 nin0)
  have f14_20 : Arv Z T14.heap vl kvl .double (2 : Int32) [(.double 0), (.double 0)] (.double 0) := f10_20.keep K14q (ninS od_vl_m0 nin0)
  have Z14 : n0 ≤ T14.heap.size := Nat.le_trans Z10 K14q.1
  have K14 : Keep h0 T14.heap [el, m0, m1, i0, i1, vl] := K10.trans K14q (allS (Or.inl (List.mem_of_getElem? (i := 1) rfl)) all0)
  refine own_go st14 ?_
  refine own_go (A := oW p e below T14 (oF_inv m 70 (oR sx) (oR el) (oi 0) (oi 2) .unset .unset .unset .unset .unset .unset .unset [(.ref sx), (.ref m0)])) (fun t k => by
    refine XS.aloadN X14.here hx rfl (hb hby o214_66) rfl rfl ?_
    refine XS.iloadN X14.here hx rfl (hb hby o214_67) rfl ?_
    show oW p e below T14 (oF_inv m 68 (oR sx) (oR el) (oi 0) (oi 2) .unset .unset .unset .unset .unset .unset .unset [(.int 0), (.ref el)]) _
    refine own_ldA X14 hx hZ rfl f14_8 ⟨by decide, by decide⟩ (v := (.ref m0)) rfl (g := (oF_inv m 68 (oR sx) (oR el) (oi 0) (oi 2) .unset .unset .unset .unset .unset .unset .unset [(.int 0), (.ref el)])) rfl rfl (hb hby o214_68) _ ?_
    refine XS.aloadN X14.here hx rfl (hb hby o214_69) rfl rfl ?_
    exact k) ?_
  obtain ⟨T15, X15, e15, st15⟩ := getF X14 hx hZ hown (host := "") (Or.inl ow25) Via.refl rfl (Gp1.keep K14 nn_sx) (g := (oF_inv m 70 (oR sx) (oR el) (oi 0) (oi 2) .unset .unset .unset .unset .unset .unset .unset [(.ref sx), (.ref m0)])) rfl rfl (hb hby o214_70)
  refine own_go st15 ?_
  refine own_go (A := oW p e below T15 (oF_inv m 76 (oR sx) (oR el) (oi 0) (oi 2) .unset .unset .unset .unset .unset .unset .unset [(.double FP.dconst1), (.int 2), (.ref m0)])) (fun t k => by
    refine XS.iloadN X15.here hx rfl (hb hby o214_73) rfl ?_
    refine XS.iadd X15.here hx rfl (hb hby o214_74) rfl ?_
    refine XS.dconst1 X15.here hx rfl (hb hby o214_75) rfl ?_
    exact k) ?_
  obtain ⟨T16, h16, X16, e16, W16, U16, st16⟩ := own_stD X15 hx hZ e15 p14_0 (j := (2 : Int32)) ⟨by decide, by decide⟩ 2 rfl (Nat.le_of_ble_eq_true rfl) (g := (oF_inv m 76 (oR sx) (oR el) (oi 0) (oi 2) .unset .unset .unset .unset .unset .unset .unset [(.double FP.dconst1), (.int 2), (.ref m0)])) rfl rfl (hb hby o214_76)
  refine own_go st16 ?_
  have V16 : Arv Z h16 m0 km0 .double (4 : Int32) [(.double mt00), (.double mt01), (.double FP.dconst1), (.double FP.dconst0)] (.double 0) := U16
  have f16_8 : Arv Z h16 el kel (.array .double) (2 : Int32) [(.ref m0), (.ref m1)] .null := f14_8.other W16 (od_el_m0)
  have f16_13 : Arv Z h16 m1 km1 .double (4 : Int32) [(.double 0), (.double 0), (.double 0), (.double 0)] (.double 0) := f14_13.other W16 (od_m0_m1.symm)
  have f16_17 : Arv Z h16 i0 ki0 .double (2 : Int32) [(.double 0), (.double 0)] (.double 0) := f14_17.other W16 (od_i0_m0)
  have f16_18 : Arv Z h16 i1 ki1 .double (2 : Int32) [(.double 0), (.double 0)] (.double 0) := f14_18.other W16 (od_i1_m0)
  have f16_20 : Arv Z h16 vl kvl .double (2 : Int32) [(.double 0), (.double 0)] (.double 0) := f14_20.other W16 (od_vl_m0)
  have N16 := Fr.snoc X16 N14 g_m0
  have Z16 : n0 ≤ h16.size := Nat.le_trans Z14 (Keep.of_wr W16).1
  have K16 : Keep h0 h16 [el, m0, m1, i0, i1, vl] := K14.wr W16 (Or.inl (List.mem_of_getElem? (i := 1) rfl))
  refine own_go (A := oW p e below T16 (oF_inv m 9 (oR sx) (oR el) (oi 1) (oi 2) .unset .unset .unset .unset .unset .unset .unset [(.ref sx), (.int 1)])) (fun t k => by
    refine XS.iinc X16.here hx rfl (hb hby o214_77) rfl (l' := #[(oR sx), (oR el), (oi 1), (oi 2), .unset, .unset, .unset, .unset, .unset, .unset, .unset]) rfl ?_
    show oW p e below T16 (oF_inv m 80 (oR sx) (oR el) (oi 1) (oi 2) .unset .unset .unset .unset .unset .unset .unset []) _
    refine XS.goto X16.here hx rfl (pc0 := 80) (pc' := 7) rfl (hb hby o214_80) (by decide) (by decide) ?_
    refine XS.iloadN X16.here hx rfl (hb hby o214_7) rfl ?_
    refine XS.aloadN X16.here hx rfl (hb hby o214_8) rfl rfl ?_
    exact k) ?_
  obtain ⟨T17, X17, e17, st17⟩ := getF X16 hx hZ hown (host := "") (Or.inl ow25) Via.refl e16 (Gp1.keep K16 nn_sx) (g := (oF_inv m 9 (oR sx) (oR el) (oi 1) (oi 2) .unset .unset .unset .unset .unset .unset .unset [(.ref sx), (.int 1)])) rfl rfl (hb hby o214_9)
  refine own_go st17 ?_
  refine own_go (A := oW p e below T17 (oF_inv m 19 (oR sx) (oR el) (oi 1) (oi 0) .unset .unset .unset .unset .unset .unset .unset [(.ref sx), (.int 0)])) (fun t k => by
    refine XS.icmpNo X17.here hx rfl (hb hby o214_12) rfl (tlt (by decide : (1 : Int32) < (2 : Int32))).2.1 ?_
    refine XS.iconst X17.here hx rfl (hb hby o214_15) ?_
    refine XS.istoreN X17.here hx rfl (hb hby o214_16) rfl (l' := #[(oR sx), (oR el), (oi 1), (oi 0), .unset, .unset, .unset, .unset, .unset, .unset, .unset]) rfl ?_
    show oW p e below T17 (oF_inv m 17 (oR sx) (oR el) (oi 1) (oi 0) .unset .unset .unset .unset .unset .unset .unset []) _
    refine XS.iloadN X17.here hx rfl (hb hby o214_17) rfl ?_
    refine XS.aloadN X17.here hx rfl (hb hby o214_18) rfl rfl ?_
    exact k) ?_
  obtain ⟨T18, X18, e18, st18⟩ := getF X17 hx hZ hown (host := "") (Or.inl ow25) Via.refl e17 (Gp1.keep K16 nn_sx) (g := (oF_inv m 19 (oR sx) (oR el) (oi 1) (oi 0) .unset .unset .unset .unset .unset .unset .unset [(.ref sx), (.int 0)])) rfl rfl (hb hby o214_19)
  refine own_go st18 ?_
  refine own_go (A := oW p e below T18 (oF_inv m 30 (oR sx) (oR el) (oi 1) (oi 0) .unset .unset .unset .unset .unset .unset .unset [(.ref sx), (.int 0), (.ref m1)])) (fun t k => by
    refine XS.icmpNo X18.here hx rfl (hb hby o214_22) rfl (tlt (by decide : (0 : Int32) < (2 : Int32))).2.1 ?_
    refine XS.aloadN X18.here hx rfl (hb hby o214_25) rfl rfl ?_
    refine XS.iloadN X18.here hx rfl (hb hby o214_26) rfl ?_
    refine own_ldA X18 hx hZ e18 f16_8 ⟨by decide, by decide⟩ (v := (.ref m1)) rfl (g := (oF_inv m 27 (oR sx) (oR el) (oi 1) (oi 0) .unset .unset .unset .unset .unset .unset .unset [(.int 1), (.ref el)])) rfl rfl (hb hby o214_27) _ ?_
    show oW p e below T18 (oF_inv m 28 (oR sx) (oR el) (oi 1) (oi 0) .unset .unset .unset .unset .unset .unset .unset [(.ref m1)]) _
    refine XS.iloadN X18.here hx rfl (hb hby o214_28) rfl ?_
    refine XS.aloadN X18.here hx rfl (hb hby o214_29) rfl rfl ?_
    exact k) ?_
  obtain ⟨T19, X19, e19, st19⟩ := getF X18 hx hZ hown (host := "") (Or.inl ow16) Via.refl e18 (Gp3.keep K16 nn_sx) (g := (oF_inv m 30 (oR sx) (oR el) (oi 1) (oi 0) .unset .unset .unset .unset .unset .unset .unset [(.ref sx), (.int 0), (.ref m1)])) rfl rfl (hb hby o214_30)
  refine own_go st19 ?_
  refine own_go (A := oW p e below T19 (oF_inv m 34 (oR sx) (oR el) (oi 1) (oi 0) .unset .unset .unset .unset .unset .unset .unset [(.ref sx), (.ref co), (.int 0), (.ref m1)])) (fun t k => by
    refine XS.aloadN X19.here hx rfl (hb hby o214_33) rfl rfl ?_
    exact k) ?_
  obtain ⟨T20, X20, e20, st20⟩ := getF X19 hx hZ hown (host := "") (Or.inl ow37) Via.refl e19 (Gp4.keep K16 nn_sx) (g := (oF_inv m 34 (oR sx) (oR el) (oi 1) (oi 0) .unset .unset .unset .unset .unset .unset .unset [(.ref sx), (.ref co), (.int 0), (.ref m1)])) rfl rfl (hb hby o214_34)
  refine own_go st20 ?_
  refine own_go (A := oW p e below T20 (oF_inv m 42 (oR sx) (oR el) (oi 1) (oi 0) .unset .unset .unset .unset .unset .unset .unset [(.double mt10), (.int 0), (.ref m1)])) (fun t k => by
    refine XS.iloadN X20.here hx rfl (hb hby o214_37) rfl ?_
    refine own_ldI X20 hx hZ e20 (Gp12.keep K16 nn_ba) ⟨by decide, by decide⟩ (v := (.int b0)) rfl (g := (oF_inv m 38 (oR sx) (oR el) (oi 1) (oi 0) .unset .unset .unset .unset .unset .unset .unset [(.int 0), (.ref ba), (.ref co), (.int 0), (.ref m1)])) rfl rfl (hb hby o214_38) _ ?_
    refine own_ldA X20 hx hZ e20 (Gp9.keep K16 nn_co) hb0 (v := (.ref y0)) hy0 (g := (oF_inv m 39 (oR sx) (oR el) (oi 1) (oi 0) .unset .unset .unset .unset .unset .unset .unset [(.int b0), (.ref co), (.int 0), (.ref m1)])) rfl rfl (hb hby o214_39) _ ?_
    show oW p e below T20 (oF_inv m 40 (oR sx) (oR el) (oi 1) (oi 0) .unset .unset .unset .unset .unset .unset .unset [(.ref y0), (.int 0), (.ref m1)]) _
    refine XS.iloadN X20.here hx rfl (hb hby o214_40) rfl ?_
    refine own_ldD X20 hx hZ e20 (Gp10.keep K16 nn_y0) ⟨by decide, by decide⟩ (v := (.double mt10)) rfl (g := (oF_inv m 41 (oR sx) (oR el) (oi 1) (oi 0) .unset .unset .unset .unset .unset .unset .unset [(.int 1), (.ref y0), (.int 0), (.ref m1)])) rfl rfl (hb hby o214_41) _ ?_
    exact k) ?_
  obtain ⟨T21, h21, X21, e21, W21, U21, st21⟩ := own_stD X20 hx hZ e20 f16_13 (j := (0 : Int32)) ⟨by decide, by decide⟩ 0 rfl (Nat.le_of_ble_eq_true rfl) (g := (oF_inv m 42 (oR sx) (oR el) (oi 1) (oi 0) .unset .unset .unset .unset .unset .unset .unset [(.double mt10), (.int 0), (.ref m1)])) rfl rfl (hb hby o214_42)
  refine own_go st21 ?_
  have V21 : Arv Z h21 m1 km1 .double (4 : Int32) [(.double mt10), (.double 0), (.double 0), (.double 0)] (.double 0) := U21
  have f21_8 : Arv Z h21 el kel (.array .double) (2 : Int32) [(.ref m0), (.ref m1)] .null := f16_8.other W21 (od_el_m1)
  have f21_17 : Arv Z h21 i0 ki0 .double (2 : Int32) [(.double 0), (.double 0)] (.double 0) := f16_17.other W21 (od_i0_m1)
  have f21_18 : Arv Z h21 i1 ki1 .double (2 : Int32) [(.double 0), (.double 0)] (.double 0) := f16_18.other W21 (od_i1_m1)
  have f21_20 : Arv Z h21 vl kvl .double (2 : Int32) [(.double 0), (.double 0)] (.double 0) := f16_20.other W21 (od_vl_m1)
  have f21_21 : Arv Z h21 m0 km0 .double (4 : Int32) [(.double mt00), (.double mt01), (.double FP.dconst1), (.double FP.dconst0)] (.double 0) := V16.other W21 (od_m0_m1)
  have N21 := Fr.snoc X21 N16 g_m1
  have Z21 : n0 ≤ h21.size := Nat.le_trans Z16 (Keep.of_wr W21).1
  have K21 : Keep h0 h21 [el, m0, m1, i0, i1, vl] := K16.wr W21 (Or.inl (List.mem_of_getElem? (i := 2) rfl))
  refine own_go (A := oW p e below T21 (oF_inv m 19 (oR sx) (oR el) (oi 1) (oi 1) .unset .unset .unset .unset .unset .unset .unset [(.ref sx), (.int 1)])) (fun t k => by
    refine XS.iinc X21.here hx rfl (hb hby o214_43) rfl (l' := #[(oR sx), (oR el), (oi 1), (oi 1), .unset, .unset, .unset, .unset, .unset, .unset, .unset]) rfl ?_
    refine XS.goto X21.here hx rfl (pc0 := 46) (pc' := 17) rfl (hb hby o214_46) (by decide) (by decide) ?_
    refine XS.iloadN X21.here hx rfl (hb hby o214_17) rfl ?_
    refine XS.aloadN X21.here hx rfl (hb hby o214_18) rfl rfl ?_
    exact k) ?_
  obtain ⟨T22, X22, e22, st22⟩ := getF X21 hx hZ hown (host := "") (Or.inl ow25) Via.refl e21 (Gp1.keep K21 nn_sx) (g := (oF_inv m 19 (oR sx) (oR el) (oi 1) (oi 1) .unset .unset .unset .unset .unset .unset .unset [(.ref sx), (.int 1)])) rfl rfl (hb hby o214_19)
  refine own_go st22 ?_
  refine own_go (A := oW p e below T22 (oF_inv m 30 (oR sx) (oR el) (oi 1) (oi 1) .unset .unset .unset .unset .unset .unset .unset [(.ref sx), (.int 1), (.ref m1)])) (fun t k => by
    refine XS.icmpNo X22.here hx rfl (hb hby o214_22) rfl (tlt (by decide : (1 : Int32) < (2 : Int32))).2.1 ?_
    refine XS.aloadN X22.here hx rfl (hb hby o214_25) rfl rfl ?_
    refine XS.iloadN X22.here hx rfl (hb hby o214_26) rfl ?_
    refine own_ldA X22 hx hZ e22 f21_8 ⟨by decide, by decide⟩ (v := (.ref m1)) rfl (g := (oF_inv m 27 (oR sx) (oR el) (oi 1) (oi 1) .unset .unset .unset .unset .unset .unset .unset [(.int 1), (.ref el)])) rfl rfl (hb hby o214_27) _ ?_
    refine XS.iloadN X22.here hx rfl (hb hby o214_28) rfl ?_
    refine XS.aloadN X22.here hx rfl (hb hby o214_29) rfl rfl ?_
    exact k) ?_
  obtain ⟨T23, X23, e23, st23⟩ := getF X22 hx hZ hown (host := "") (Or.inl ow16) Via.refl e22 (Gp3.keep K21 nn_sx) (g := (oF_inv m 30 (oR sx) (oR el) (oi 1) (oi 1) .unset .unset .unset .unset .unset .unset .unset [(.ref sx), (.int 1), (.ref m1)])) rfl rfl (hb hby o214_30)
  refine own_go st23 ?_
  refine own_go (A := oW p e below T23 (oF_inv m 34 (oR sx) (oR el) (oi 1) (oi 1) .unset .unset .unset .unset .unset .unset .unset [(.ref sx), (.ref co), (.int 1), (.ref m1)])) (fun t k => by
    refine XS.aloadN X23.here hx rfl (hb hby o214_33) rfl rfl ?_
    exact k) ?_
  obtain ⟨T24, X24, e24, st24⟩ := getF X23 hx hZ hown (host := "") (Or.inl ow37) Via.refl e23 (Gp4.keep K21 nn_sx) (g := (oF_inv m 34 (oR sx) (oR el) (oi 1) (oi 1) .unset .unset .unset .unset .unset .unset .unset [(.ref sx), (.ref co), (.int 1), (.ref m1)])) rfl rfl (hb hby o214_34)
  refine own_go st24 ?_
  refine own_go (A := oW p e below T24 (oF_inv m 42 (oR sx) (oR el) (oi 1) (oi 1) .unset .unset .unset .unset .unset .unset .unset [(.double mt11), (.int 1), (.ref m1)])) (fun t k => by
    refine XS.iloadN X24.here hx rfl (hb hby o214_37) rfl ?_
    refine own_ldI X24 hx hZ e24 (Gp12.keep K21 nn_ba) ⟨by decide, by decide⟩ (v := (.int b1)) rfl (g := (oF_inv m 38 (oR sx) (oR el) (oi 1) (oi 1) .unset .unset .unset .unset .unset .unset .unset [(.int 1), (.ref ba), (.ref co), (.int 1), (.ref m1)])) rfl rfl (hb hby o214_38) _ ?_
    refine own_ldA X24 hx hZ e24 (Gp9.keep K21 nn_co) hb1 (v := (.ref y1)) hy1 (g := (oF_inv m 39 (oR sx) (oR el) (oi 1) (oi 1) .unset .unset .unset .unset .unset .unset .unset [(.int b1), (.ref co), (.int 1), (.ref m1)])) rfl rfl (hb hby o214_39) _ ?_
    refine XS.iloadN X24.here hx rfl (hb hby o214_40) rfl ?_
    refine own_ldD X24 hx hZ e24 (Gp11.keep K21 nn_y1) ⟨by decide, by decide⟩ (v := (.double mt11)) rfl (g := (oF_inv m 41 (oR sx) (oR el) (oi 1) (oi 1) .unset .unset .unset .unset .unset .unset .unset [(.int 1), (.ref y1), (.int 1), (.ref m1)])) rfl rfl (hb hby o214_41) _ ?_
    exact k) ?_
  obtain ⟨T25, h25, X25, e25, W25, U25, st25⟩ := own_stD X24 hx hZ e24 V21 (j := (1 : Int32)) ⟨by decide, by decide⟩ 1 rfl (Nat.le_of_ble_eq_true rfl) (g := (oF_inv m 42 (oR sx) (oR el) (oi 1) (oi 1) .unset .unset .unset .unset .unset .unset .unset [(.double mt11), (.int 1), (.ref m1)])) rfl rfl (hb hby o214_42)
  refine own_go st25 ?_
  have V25 : Arv Z h25 m1 km1 .double (4 : Int32) [(.double mt10), (.double mt11), (.double 0), (.double 0)] (.double 0) := U25
  have f25_8 : Arv Z h25 el kel (.array .double) (2 : Int32) [(.ref m0), (.ref m1)] .null := f21_8.other W25 (od_el_m1)
  have f25_16 : Arv Z h25 i0 ki0 .double (2 : Int32) [(.double 0), (.double 0)] (.double 0) := f21_17.other W25 (od_i0_m1)
  have f25_17 : Arv Z h25 i1 ki1 .double (2 : Int32) [(.double 0), (.double 0)] (.double 0) := f21_18.other W25 (od_i1_m1)
  have f25_19 : Arv Z h25 vl kvl .double (2 : Int32) [(.double 0), (.double 0)] (.double 0) := f21_20.other W25 (od_vl_m1)
  have f25_20 : Arv Z h25 m0 km0 .double (4 : Int32) [(.double mt00), (.double mt01), (.double FP.dconst1), (.double FP.dconst0)] (.double 0) := f21_21.other W25 (od_m0_m1)
  have N25 := Fr.snoc X25 N21 g_m1
  have Z25 : n0 ≤ h25.size := Nat.le_trans Z21 (Keep.of_wr W25).1
  have K25 : Keep h0 h25 [el, m0, m1, i0, i1, vl] := K21.wr W25 (Or.inl (List.mem_of_getElem? (i := 2) rfl))
  refine own_go (A := oW p e below T25 (oF_inv m 19 (oR sx) (oR el) (oi 1) (oi 2) .unset .unset .unset .unset .unset .unset .unset [(.ref sx), (.int 2)])) (fun t k => by
    refine XS.iinc X25.here hx rfl (hb hby o214_43) rfl (l' := #[(oR sx), (oR el), (oi 1), (oi 2), .unset, .unset, .unset, .unset, .unset, .unset, .unset]) rfl ?_
    refine XS.goto X25.here hx rfl (pc0 := 46) (pc' := 17) rfl (hb hby o214_46) (by decide) (by decide) ?_
    refine XS.iloadN X25.here hx rfl (hb hby o214_17) rfl ?_
    refine XS.aloadN X25.here hx rfl (hb hby o214_18) rfl rfl ?_
    exact k) ?_
  obtain ⟨T26, X26, e26, st26⟩ := getF X25 hx hZ hown (host := "") (Or.inl ow25) Via.refl e25 (Gp1.keep K25 nn_sx) (g := (oF_inv m 19 (oR sx) (oR el) (oi 1) (oi 2) .unset .unset .unset .unset .unset .unset .unset [(.ref sx), (.int 2)])) rfl rfl (hb hby o214_19)
  refine own_go st26 ?_
  refine own_go (A := oW p e below T26 (oF_inv m 53 (oR sx) (oR el) (oi 1) (oi 2) .unset .unset .unset .unset .unset .unset .unset [(.ref sx), (.ref m1)])) (fun t k => by
    refine XS.icmpYes X26.here hx rfl (pc0 := 22) (pc' := 49) rfl (hb hby o214_22) rfl (flt (by decide : ¬ ((2 : Int32) < (2 : Int32)))).2.1 (by decide) (by decide) ?_
    refine XS.aloadN X26.here hx rfl (hb hby o214_49) rfl rfl ?_
    show oW p e below T26 (oF_inv m 50 (oR sx) (oR el) (oi 1) (oi 2) .unset .unset .unset .unset .unset .unset .unset [(.ref el)]) _
    refine XS.iloadN X26.here hx rfl (hb hby o214_50) rfl ?_
    refine own_ldA X26 hx hZ e26 f25_8 ⟨by decide, by decide⟩ (v := (.ref m1)) rfl (g := (oF_inv m 51 (oR sx) (oR el) (oi 1) (oi 2) .unset .unset .unset .unset .unset .unset .unset [(.int 1), (.ref el)])) rfl rfl (hb hby o214_51) _ ?_
    refine XS.aloadN X26.here hx rfl (hb hby o214_52) rfl rfl ?_
    exact k) ?_
  obtain ⟨T27, X27, e27, st27⟩ := getF X26 hx hZ hown (host := "") (Or.inl ow25) Via.refl e26 (Gp1.keep K25 nn_sx) (g := (oF_inv m 53 (oR sx) (oR el) (oi 1) (oi 2) .unset .unset .unset .unset .unset .unset .unset [(.ref sx), (.ref m1)])) rfl rfl (hb hby o214_53)
  refine own_go st27 ?_
  refine own_go (A := oW p e below T27 (oF_inv m 58 (oR sx) (oR el) (oi 1) (oi 2) .unset .unset .unset .unset .unset .unset .unset [(.ref sx), (.int 2), (.int 2), (.ref m1)])) (fun t k => by
    refine XS.iconst X27.here hx rfl (hb hby o214_56) ?_
    refine XS.aloadN X27.here hx rfl (hb hby o214_57) rfl rfl ?_
    exact k) ?_
  obtain ⟨T28, X28, e28, st28⟩ := getF X27 hx hZ hown (host := "") (Or.inl ow25) Via.refl e27 (Gp1.keep K25 nn_sx) (g := (oF_inv m 58 (oR sx) (oR el) (oi 1) (oi 2) .unset .unset .unset .unset .unset .unset .unset [(.ref sx), (.int 2), (.int 2), (.ref m1)])) rfl rfl (hb hby o214_58)
  refine own_go st28 ?_
  refine own_go (A := oW p e below T28 (oF_inv m 63 (oR sx) (oR el) (oi 1) (oi 2) .unset .unset .unset .unset .unset .unset .unset [(.double FP.dconst0), (.int 4), (.int 2), (.ref m1)])) (fun t k => by
    refine XS.imul X28.here hx rfl (hb hby o214_61) rfl ?_
    show oW p e below T28 (oF_inv m 62 (oR sx) (oR el) (oi 1) (oi 2) .unset .unset .unset .unset .unset .unset .unset [(.int 4), (.int 2), (.ref m1)]) _
    refine XS.dconst0 X28.here hx rfl (hb hby o214_62) rfl ?_
    exact k) ?_
  obtain ⟨_, _, ⟨T29, L29, k29, n29⟩, -, X29, ⟨Lc29, hQ29, l29, y29, z29⟩, st29⟩ := Jvm.LawKit.callS X28 hx (y := (⟨"java/util/Arrays", "fill", "([DIID)V"⟩ : MethodName)) hown (mvT hZ ow70) (mvT hZ ow71) (mvT hZ ow52) (mvT hZ ow72) (by decide) (backOf (W := 0) (own_rm_fillD l Z a0 hw [] m1 km1 mt10 mt11 (0 : UInt64) (0 : UInt64) h25 n0 Z25 V25 g_m1) hZ ow72 ow52 (by decide) (by decide)) (g := (oF_inv m 63 (oR sx) (oR el) (oi 1) (oi 2) .unset .unset .unset .unset .unset .unset .unset [(.double FP.dconst0), (.int 4), (.int 2), (.ref m1)])) rfl (by rw [hml]; rfl) (argsL := [(.ref m1), (.int 2), (.int 4), (.double FP.dconst0)]) (rest := []) (lenOf own_pd_285bDIID29V rfl) rfl (by show 2 * 0 + _ ≤ _; exact Nat.le_of_eq rfl) (hb hby o214_63) (fun _ _ => ⟨rfl, e28, (by decide : 0 + 0 ≤ _), (by decide : 0 + 0 ≤ _)⟩)
  dsimp only [Pt.U, Pt.locs, Pt.cells, Pt.slots] at X29 l29 y29 z29 st29 hQ29
  subst l29 y29 z29
  obtain ⟨rfl, N29q, K29q, p29_0⟩ := hQ29
  have N29 := Fr.app N25 N29q
  have f29_8 : Arv Z T29.heap el kel (.array .double) (2 : Int32) [(.ref m0), (.ref m1)] .null := f25_8.keep K29q (ninS od_el_m1 nin0)
  have f29_16 : Arv Z T29.heap i0 ki0 .double (2 : Int32) [(.double 0), (.double 0)] (.double 0) := f25_16.keep K29q (ninS od_i0_m1 nin0)
  have f29_17 : Arv Z T29.heap i1 ki1 .double (2 : Int32) [(.double 0), (.double 0)] (.double 0) := f25_17.keep K29q (ninS od_i1_m1 nin0)
  have f29_19 : Arv Z T29.heap vl kvl .double (2 : Int32) [(.double 0), (.double 0)] (.double 0) := f25_19.keep K29q (ninS od_vl_m1 nin0)
  have f29_20 : Arv Z T29.heap m0 km0 .double (4 : Int32) [(.double mt00), (.double mt01), (.double FP.dconst1), (.double FP.dconst0)] (.double 0) := f25_20.keep K29q (ninS od_m0_m1 nin0)
  have Z29 : n0 ≤ T29.heap.size := Nat.le_trans Z25 K29q.1
  have K29 : Keep h0 T29.heap [el, m0, m1, i0, i1, vl] := K25.trans K29q (allS (Or.inl (List.mem_of_getElem? (i := 2) rfl)) all0)
  refine own_go st29 ?_
  refine own_go (A := oW p e below T29 (oF_inv m 70 (oR sx) (oR el) (oi 1) (oi 2) .unset .unset .unset .unset .unset .unset .unset [(.ref sx), (.ref m1)])) (fun t k => by
    refine XS.aloadN X29.here hx rfl (hb hby o214_66) rfl rfl ?_
    refine XS.iloadN X29.here hx rfl (hb hby o214_67) rfl ?_
    refine own_ldA X29 hx hZ rfl f29_8 ⟨by decide, by decide⟩ (v := (.ref m1)) rfl (g := (oF_inv m 68 (oR sx) (oR el) (oi 1) (oi 2) .unset .unset .unset .unset .unset .unset .unset [(.int 1), (.ref el)])) rfl rfl (hb hby o214_68) _ ?_
    refine XS.aloadN X29.here hx rfl (hb hby o214_69) rfl rfl ?_
    exact k) ?_
  obtain ⟨T30, X30, e30, st30⟩ := getF X29 hx hZ hown (host := "") (Or.inl ow25) Via.refl rfl (Gp1.keep K29 nn_sx) (g := (oF_inv m 70 (oR sx) (oR el) (oi 1) (oi 2) .unset .unset .unset .unset .unset .unset .unset [(.ref sx), (.ref m1)])) rfl rfl (hb hby o214_70)
  refine own_go st30 ?_
  refine own_go (A := oW p e below T30 (oF_inv m 76 (oR sx) (oR el) (oi 1) (oi 2) .unset .unset .unset .unset .unset .unset .unset [(.double FP.dconst1), (.int 3), (.ref m1)])) (fun t k => by
    refine XS.iloadN X30.here hx rfl (hb hby o214_73) rfl ?_
    show oW p e below T30 (oF_inv m 74 (oR sx) (oR el) (oi 1) (oi 2) .unset .unset .unset .unset .unset .unset .unset [(.int 1), (.int 2), (.ref m1)]) _
    refine XS.iadd X30.here hx rfl (hb hby o214_74) rfl ?_
    refine XS.dconst1 X30.here hx rfl (hb hby o214_75) rfl ?_
    exact k) ?_
  obtain ⟨T31, h31, X31, e31, W31, U31, st31⟩ := own_stD X30 hx hZ e30 p29_0 (j := (3 : Int32)) ⟨by decide, by decide⟩ 3 rfl (Nat.le_of_ble_eq_true rfl) (g := (oF_inv m 76 (oR sx) (oR el) (oi 1) (oi 2) .unset .unset .unset .unset .unset .unset .unset [(.double FP.dconst1), (.int 3), (.ref m1)])) rfl rfl (hb hby o214_76)
  refine own_go st31 ?_
  have V31 : Arv Z h31 m1 km1 .double (4 : Int32) [(.double mt10), (.double mt11), (.double FP.dconst0), (.double FP.dconst1)] (.double 0) := U31
  have f31_8 : Arv Z h31 el kel (.array .double) (2 : Int32) [(.ref m0), (.ref m1)] .null := f29_8.other W31 (od_el_m1)
  have f31_16 : Arv Z h31 i0 ki0 .double (2 : Int32) [(.double 0), (.double 0)] (.double 0) := f29_16.other W31 (od_i0_m1)
  have f31_17 : Arv Z h31 i1 ki1 .double (2 : Int32) [(.double 0), (.double 0)] (.double 0) := f29_17.other W31 (od_i1_m1)
  have f31_19 : Arv Z h31 vl kvl .double (2 : Int32) [(.double 0), (.double 0)] (.double 0) := f29_19.other W31 (od_vl_m1)
  have f31_20 : Arv Z h31 m0 km0 .double (4 : Int32) [(.double mt00), (.double mt01), (.double FP.dconst1), (.double FP.dconst0)] (.double 0) := f29_20.other W31 (od_m0_m1)
  have N31 := Fr.snoc X31 N29 g_m1
  have Z31 : n0 ≤ h31.size := Nat.le_trans Z29 (Keep.of_wr W31).1
  have K31 : Keep h0 h31 [el, m0, m1, i0, i1, vl] := K29.wr W31 (Or.inl (List.mem_of_getElem? (i := 2) rfl))
  refine own_go (A := oW p e below T31 (oF_inv m 9 (oR sx) (oR el) (oi 2) (oi 2) .unset .unset .unset .unset .unset .unset .unset [(.ref sx), (.int 2)])) (fun t k => by
    refine XS.iinc X31.here hx rfl (hb hby o214_77) rfl (l' := #[(oR sx), (oR el), (oi 2), (oi 2), .unset, .unset, .unset, .unset, .unset, .unset, .unset]) rfl ?_
    refine XS.goto X31.here hx rfl (pc0 := 80) (pc' := 7) rfl (hb hby o214_80) (by decide) (by decide) ?_
    refine XS.iloadN X31.here hx rfl (hb hby o214_7) rfl ?_
    refine XS.aloadN X31.here hx rfl (hb hby o214_8) rfl rfl ?_
    exact k) ?_
  obtain ⟨T32, X32, e32, st32⟩ := getF X31 hx hZ hown (host := "") (Or.inl ow25) Via.refl e31 (Gp1.keep K31 nn_sx) (g := (oF_inv m 9 (oR sx) (oR el) (oi 2) (oi 2) .unset .unset .unset .unset .unset .unset .unset [(.ref sx), (.int 2)])) rfl rfl (hb hby o214_9)
  refine own_go st32 ?_
  refine own_go (A := oW p e below T32 (oF_inv m 83 (oR sx) (oR el) (oi 2) (oi 2) .unset .unset .unset .unset .unset .unset .unset [])) (fun t k => by
    refine XS.icmpYes X32.here hx rfl (pc0 := 12) (pc' := 83) rfl (hb hby o214_12) rfl (flt (by decide : ¬ ((2 : Int32) < (2 : Int32)))).2.1 (by decide) (by decide) ?_
    exact k) ?_
  rcases hsel with ⟨s0, s1, s2, s3, s4, s5, s6, s7⟩ | ⟨s0, s1, s2, s3, s4, s5, s6, s7⟩ | ⟨s0, s1, s2, s3, s4, s5, s6, s7⟩
  · subst mt00 mt01 mt10 mt11 q00 q01 q10 q11
    refine own_go (A := oW p e below T32 (oF_inv m 87 (oR sx) (oR el) (oi 0) (oi 2) .unset .unset .unset .unset .unset .unset .unset [(.ref sx), (.int 0)])) (fun t k => by
      refine XS.iconst X32.here hx rfl (hb hby o214_83) ?_
      refine XS.istoreN X32.here hx rfl (hb hby o214_84) rfl (l' := #[(oR sx), (oR el), (oi 0), (oi 2), .unset, .unset, .unset, .unset, .unset, .unset, .unset]) rfl ?_
      refine XS.iloadN X32.here hx rfl (hb hby o214_85) rfl ?_
      refine XS.aloadN X32.here hx rfl (hb hby o214_86) rfl rfl ?_
      exact k) ?_
    obtain ⟨T33, X33, e33, st33⟩ := getF X32 hx hZ hown (host := "") (Or.inl ow25) Via.refl e32 (Gp1.keep K31 nn_sx) (g := (oF_inv m 87 (oR sx) (oR el) (oi 0) (oi 2) .unset .unset .unset .unset .unset .unset .unset [(.ref sx), (.int 0)])) rfl rfl (hb hby o214_87)
    refine own_go st33 ?_
    refine own_go (A := oW p e below T33 (oF_inv m 103 (oR sx) (oR el) (oi 0) (oi 0) (oi 1) .unset .unset .unset .unset .unset .unset [(.ref sx), (.int 1)])) (fun t k => by
      refine XS.icmpNo X33.here hx rfl (hb hby o214_90) rfl (tlt (by decide : (0 : Int32) < (2 : Int32))).2.1 ?_
      show oW p e below T33 (oF_inv m 93 (oR sx) (oR el) (oi 0) (oi 2) .unset .unset .unset .unset .unset .unset .unset []) _
      refine XS.iloadN X33.here hx rfl (hb hby o214_93) rfl ?_
      refine XS.istoreN X33.here hx rfl (hb hby o214_94) rfl (l' := #[(oR sx), (oR el), (oi 0), (oi 0), .unset, .unset, .unset, .unset, .unset, .unset, .unset]) rfl ?_
      refine XS.iloadN X33.here hx rfl (hb hby o214_95) rfl ?_
      refine XS.iconst X33.here hx rfl (hb hby o214_96) ?_
      refine XS.iadd X33.here hx rfl (hb hby o214_97) rfl ?_
      refine XS.istore X33.here hx rfl (hb hby o214_98) rfl (l' := #[(oR sx), (oR el), (oi 0), (oi 0), (oi 1), .unset, .unset, .unset, .unset, .unset, .unset]) rfl ?_
      show oW p e below T33 (oF_inv m 100 (oR sx) (oR el) (oi 0) (oi 0) (oi 1) .unset .unset .unset .unset .unset .unset []) _
      refine XS.iload X33.here hx rfl (hb hby o214_100) rfl ?_
      refine XS.aloadN X33.here hx rfl (hb hby o214_102) rfl rfl ?_
      exact k) ?_
    obtain ⟨T34, X34, e34, st34⟩ := getF X33 hx hZ hown (host := "") (Or.inl ow25) Via.refl e33 (Gp1.keep K31 nn_sx) (g := (oF_inv m 103 (oR sx) (oR el) (oi 0) (oi 0) (oi 1) .unset .unset .unset .unset .unset .unset [(.ref sx), (.int 1)])) rfl rfl (hb hby o214_103)
    refine own_go st34 ?_
    refine own_go (A := oW p e below T34 (oF_inv m 115 (oR sx) (oR el) (oi 0) (oi 0) (oi 1) .unset .unset .unset .unset .unset .unset [(.double FP.dconst0)])) (fun t k => by
      refine XS.icmpNo X34.here hx rfl (hb hby o214_106) rfl (tlt (by decide : (1 : Int32) < (2 : Int32))).2.1 ?_
      refine XS.aloadN X34.here hx rfl (hb hby o214_109) rfl rfl ?_
      refine XS.iload X34.here hx rfl (hb hby o214_110) rfl ?_
      refine own_ldA X34 hx hZ e34 f31_8 ⟨by decide, by decide⟩ (v := (.ref m1)) rfl (g := (oF_inv m 112 (oR sx) (oR el) (oi 0) (oi 0) (oi 1) .unset .unset .unset .unset .unset .unset [(.int 1), (.ref el)])) rfl rfl (hb hby o214_112) _ ?_
      show oW p e below T34 (oF_inv m 113 (oR sx) (oR el) (oi 0) (oi 0) (oi 1) .unset .unset .unset .unset .unset .unset [(.ref m1)]) _
      refine XS.iloadN X34.here hx rfl (hb hby o214_113) rfl ?_
      refine own_ldD X34 hx hZ e34 V31 ⟨by decide, by decide⟩ (v := (.double FP.dconst0)) rfl (g := (oF_inv m 114 (oR sx) (oR el) (oi 0) (oi 0) (oi 1) .unset .unset .unset .unset .unset .unset [(.int 0), (.ref m1)])) rfl rfl (hb hby o214_114) _ ?_
      exact k) ?_
    obtain ⟨_, vm35, B35, -, X35q, ⟨hr35, hB35⟩, st35⟩ := Jvm.LawKit.callS X34 hx (y := (⟨"java/lang/Math", "abs", "(D)D"⟩ : MethodName)) hown (mvT hZ ow76) (mvT hZ ow77) (mvT hZ ow78) (mvT hZ ow79) (by decide) (Jvm.Free.Fl.Abs.absD_pays (W := 0) FP.dconst0 (mvT hZ ow79) (by decide) (by decide)) (g := (oF_inv m 115 (oR sx) (oR el) (oi 0) (oi 0) (oi 1) .unset .unset .unset .unset .unset .unset [(.double FP.dconst0)])) rfl (by rw [hml]; rfl) (argsL := [(.double FP.dconst0)]) (rest := []) (lenOf own_pd_28D29D rfl) rfl (by show 2 * 0 + _ ≤ _; exact Nat.le_of_eq rfl) (hb hby o214_115) (fun _ _ => ⟨(by decide : 0 ≤ _), (by decide : 0 ≤ _), rfl, (own_s0 hPx hPy)⟩)
    subst hB35; subst hr35
    obtain ⟨T35, eT35⟩ : ∃ z, z = T34.setVm vm35 := ⟨_, rfl⟩
    dsimp only [Pt.U, Pt.locs, Pt.cells, Pt.slots] at X35q st35
    rw [← eT35] at X35q st35
    have X35 := X35q
    have e35 : T35.heap = h31 := by rw [eT35]; exact e34
    rw [own_f0 hPx hPy] at st35
    refine own_go st35 ?_
    refine own_go (A := oW p e below T35 (oF_inv m 123 (oR sx) (oR el) (oi 0) (oi 0) (oi 1) .unset .unset .unset .unset .unset .unset [(.double ux), (.double 0)])) (fun t k => by
      refine XS.aloadN X35.here hx rfl (hb hby o214_118) rfl rfl ?_
      refine XS.iloadN X35.here hx rfl (hb hby o214_119) rfl ?_
      refine own_ldA X35 hx hZ e35 f31_8 ⟨by decide, by decide⟩ (v := (.ref m0)) rfl (g := (oF_inv m 120 (oR sx) (oR el) (oi 0) (oi 0) (oi 1) .unset .unset .unset .unset .unset .unset [(.int 0), (.ref el), (.double 0)])) rfl rfl (hb hby o214_120) _ ?_
      refine XS.iloadN X35.here hx rfl (hb hby o214_121) rfl ?_
      show oW p e below T35 (oF_inv m 122 (oR sx) (oR el) (oi 0) (oi 0) (oi 1) .unset .unset .unset .unset .unset .unset [(.int 0), (.ref m0), (.double 0)]) _
      refine own_ldD X35 hx hZ e35 f31_20 ⟨by decide, by decide⟩ (v := (.double ux)) rfl (g := (oF_inv m 122 (oR sx) (oR el) (oi 0) (oi 0) (oi 1) .unset .unset .unset .unset .unset .unset [(.int 0), (.ref m0), (.double 0)])) rfl rfl (hb hby o214_122) _ ?_
      exact k) ?_
    obtain ⟨_, vm36, B36, -, X36q, ⟨hr36, hB36⟩, st36⟩ := Jvm.LawKit.callS X35 hx (y := (⟨"java/lang/Math", "abs", "(D)D"⟩ : MethodName)) hown (mvT hZ ow76) (mvT hZ ow77) (mvT hZ ow78) (mvT hZ ow79) (by decide) (Jvm.Free.Fl.Abs.absD_pays (W := 2) ux (mvT hZ ow79) (by decide) (by decide)) (g := (oF_inv m 123 (oR sx) (oR el) (oi 0) (oi 0) (oi 1) .unset .unset .unset .unset .unset .unset [(.double ux), (.double 0)])) rfl (by rw [hml]; rfl) (argsL := [(.double ux)]) (rest := [(.double 0)]) (lenOf own_pd_28D29D rfl) rfl (by show 2 * 0 + _ ≤ _; exact Nat.le_of_eq rfl) (hb hby o214_123) (fun _ _ => ⟨(by decide : 0 ≤ _), (by decide : 0 ≤ _), rfl, (own_s1 hPx hPy)⟩)
    subst hB36; subst hr36
    obtain ⟨T36, eT36⟩ : ∃ z, z = T35.setVm vm36 := ⟨_, rfl⟩
    dsimp only [Pt.U, Pt.locs, Pt.cells, Pt.slots] at X36q st36
    rw [← eT36] at X36q st36
    have X36 := X36q
    have e36 : T36.heap = h31 := by rw [eT36]; exact e35
    rw [own_f1 hPx hPy] at st36
    refine own_go st36 ?_
    refine own_go (A := oW p e below T36 (oF_inv m 103 (oR sx) (oR el) (oi 0) (oi 0) (oi 2) .unset .unset .unset .unset .unset .unset [(.ref sx), (.int 2)])) (fun t k => by
      refine XS.dcmpS X36.here hx rfl (hb hby o214_126) rfl (own_f2 hPx hPy) ?_
      refine XS.ifYes X36.here hx rfl (pc0 := 127) (pc' := 133) rfl (hb hby o214_127) rfl ((if0 _ _).trans (flt (by decide : ¬ ((0 : Int32) < (-1 : Int32)))).2.2.2) (by decide) (by decide) ?_
      refine XS.iinc X36.here hx rfl (hb hby o214_133) rfl (l' := #[(oR sx), (oR el), (oi 0), (oi 0), (oi 2), .unset, .unset, .unset, .unset, .unset, .unset]) rfl ?_
      refine XS.goto X36.here hx rfl (pc0 := 136) (pc' := 100) rfl (hb hby o214_136) (by decide) (by decide) ?_
      refine XS.iload X36.here hx rfl (hb hby o214_100) rfl ?_
      show oW p e below T36 (oF_inv m 102 (oR sx) (oR el) (oi 0) (oi 0) (oi 2) .unset .unset .unset .unset .unset .unset [(.int 2)]) _
      refine XS.aloadN X36.here hx rfl (hb hby o214_102) rfl rfl ?_
      exact k) ?_
    obtain ⟨T37, X37, e37, st37⟩ := getF X36 hx hZ hown (host := "") (Or.inl ow25) Via.refl e36 (Gp1.keep K31 nn_sx) (g := (oF_inv m 103 (oR sx) (oR el) (oi 0) (oi 0) (oi 2) .unset .unset .unset .unset .unset .unset [(.ref sx), (.int 2)])) rfl rfl (hb hby o214_103)
    refine own_go st37 ?_
    refine own_go (A := oW p e below T37 (oF_inv m 144 (oR sx) (oR el) (oi 0) (oi 0) (oi 2) .unset .unset .unset .unset .unset .unset [(.double ux)])) (fun t k => by
      refine XS.icmpYes X37.here hx rfl (pc0 := 106) (pc' := 139) rfl (hb hby o214_106) rfl (flt (by decide : ¬ ((2 : Int32) < (2 : Int32)))).2.1 (by decide) (by decide) ?_
      refine XS.aloadN X37.here hx rfl (hb hby o214_139) rfl rfl ?_
      refine XS.iloadN X37.here hx rfl (hb hby o214_140) rfl ?_
      refine own_ldA X37 hx hZ e37 f31_8 ⟨by decide, by decide⟩ (v := (.ref m0)) rfl (g := (oF_inv m 141 (oR sx) (oR el) (oi 0) (oi 0) (oi 2) .unset .unset .unset .unset .unset .unset [(.int 0), (.ref el)])) rfl rfl (hb hby o214_141) _ ?_
      refine XS.iloadN X37.here hx rfl (hb hby o214_142) rfl ?_
      show oW p e below T37 (oF_inv m 143 (oR sx) (oR el) (oi 0) (oi 0) (oi 2) .unset .unset .unset .unset .unset .unset [(.int 0), (.ref m0)]) _
      refine own_ldD X37 hx hZ e37 f31_20 ⟨by decide, by decide⟩ (v := (.double ux)) rfl (g := (oF_inv m 143 (oR sx) (oR el) (oi 0) (oi 0) (oi 2) .unset .unset .unset .unset .unset .unset [(.int 0), (.ref m0)])) rfl rfl (hb hby o214_143) _ ?_
      exact k) ?_
    obtain ⟨_, vm38, B38, -, X38q, ⟨hr38, hB38⟩, st38⟩ := Jvm.LawKit.callS X37 hx (y := (⟨"java/lang/Math", "abs", "(D)D"⟩ : MethodName)) hown (mvT hZ ow76) (mvT hZ ow77) (mvT hZ ow78) (mvT hZ ow79) (by decide) (Jvm.Free.Fl.Abs.absD_pays (W := 0) ux (mvT hZ ow79) (by decide) (by decide)) (g := (oF_inv m 144 (oR sx) (oR el) (oi 0) (oi 0) (oi 2) .unset .unset .unset .unset .unset .unset [(.double ux)])) rfl (by rw [hml]; rfl) (argsL := [(.double ux)]) (rest := []) (lenOf own_pd_28D29D rfl) rfl (by show 2 * 0 + _ ≤ _; exact Nat.le_of_eq rfl) (hb hby o214_144) (fun _ _ => ⟨(by decide : 0 ≤ _), (by decide : 0 ≤ _), rfl, (own_s1 hPx hPy)⟩)
    subst hB38; subst hr38
    obtain ⟨T38, eT38⟩ : ∃ z, z = T37.setVm vm38 := ⟨_, rfl⟩
    dsimp only [Pt.U, Pt.locs, Pt.cells, Pt.slots] at X38q st38
    rw [← eT38] at X38q st38
    have X38 := X38q
    have e38 : T38.heap = h31 := by rw [eT38]; exact e37
    rw [own_f1 hPx hPy] at st38
    refine own_go st38 ?_
    refine own_go (A := oW p e below T38 (oF_inv m 166 (oR sx) (oR el) (oi 0) (oi 0) (oR m0) .unset .unset .unset .unset .unset .unset [(.ref m0), (.int 0), (.ref el)])) (fun t k => by
      refine X38.ldc2DoubleC hx hown (mvT hZ ow80) (g := (oF_inv m 147 (oR sx) (oR el) (oi 0) (oi 0) (oi 2) .unset .unset .unset .unset .unset .unset [(.double ux)])) rfl (hb hby o214_147) _ ?_
      refine XS.dcmpS X38.here hx rfl (hb hby o214_150) rfl (own_f3 hPx hPy) ?_
      refine XS.ifYes X38.here hx rfl (pc0 := 151) (pc' := 156) rfl (hb hby o214_151) rfl ((if0 _ _).trans (tlt (by decide : (0 : Int32) < (1 : Int32))).2.2.1) (by decide) (by decide) ?_
      refine XS.aloadN X38.here hx rfl (hb hby o214_156) rfl rfl ?_
      refine XS.iloadN X38.here hx rfl (hb hby o214_157) rfl ?_
      show oW p e below T38 (oF_inv m 158 (oR sx) (oR el) (oi 0) (oi 0) (oi 2) .unset .unset .unset .unset .unset .unset [(.int 0), (.ref el)]) _
      refine own_ldA X38 hx hZ e38 f31_8 ⟨by decide, by decide⟩ (v := (.ref m0)) rfl (g := (oF_inv m 158 (oR sx) (oR el) (oi 0) (oi 0) (oi 2) .unset .unset .unset .unset .unset .unset [(.int 0), (.ref el)])) rfl rfl (hb hby o214_158) _ ?_
      refine XS.astore X38.here hx rfl (hb hby o214_159) rfl rfl (l' := #[(oR sx), (oR el), (oi 0), (oi 0), (oR m0), .unset, .unset, .unset, .unset, .unset, .unset]) rfl ?_
      refine XS.aloadN X38.here hx rfl (hb hby o214_161) rfl rfl ?_
      refine XS.iloadN X38.here hx rfl (hb hby o214_162) rfl ?_
      refine XS.aloadN X38.here hx rfl (hb hby o214_163) rfl rfl ?_
      refine XS.iloadN X38.here hx rfl (hb hby o214_164) rfl ?_
      show oW p e below T38 (oF_inv m 165 (oR sx) (oR el) (oi 0) (oi 0) (oR m0) .unset .unset .unset .unset .unset .unset [(.int 0), (.ref el), (.int 0), (.ref el)]) _
      refine own_ldA X38 hx hZ e38 f31_8 ⟨by decide, by decide⟩ (v := (.ref m0)) rfl (g := (oF_inv m 165 (oR sx) (oR el) (oi 0) (oi 0) (oR m0) .unset .unset .unset .unset .unset .unset [(.int 0), (.ref el), (.int 0), (.ref el)])) rfl rfl (hb hby o214_165) _ ?_
      exact k) ?_
    obtain ⟨cl39, Ar39, q39, S39, N39, H39, G39⟩ := id (f31_8)
    have hi39 : ¬ ((0 : Int32) < 0 ∨ cl39.slots.size ≤ ((0 : Int32)).toNatClampNeg) := inb_of S39 ⟨by decide, by decide⟩
    obtain ⟨T40, h40, X40, e40, W40, st40⟩ := stR X38 hx hZ e38 Ar39 (j := (0 : Int32)) hi39 rfl (Sto.ofVA Ar39 q39 Oel (Ins.self (Gp15.keep K31))) (g := (oF_inv m 166 (oR sx) (oR el) (oi 0) (oi 0) (oR m0) .unset .unset .unset .unset .unset .unset [(.ref m0), (.int 0), (.ref el)])) rfl rfl (hb hby o214_166)
    refine own_go st40 ?_
    have V40 : Arv Z h40 el kel (.array .double) (2 : Int32) [(.ref m0), (.ref m1)] .null := Arv.set Ar39 q39 S39 N39 H39 G39 rfl W40 0 rfl (Nat.le_of_ble_eq_true rfl)
    have f40_6 : Arv Z h40 el kel (.array .double) (2 : Int32) [(.ref m0), (.ref m1)] .null := V40
    have f40_10 : Arv Z h40 i0 ki0 .double (2 : Int32) [(.double 0), (.double 0)] (.double 0) := f31_16.other W40 (od_i0_el)
    have f40_11 : Arv Z h40 i1 ki1 .double (2 : Int32) [(.double 0), (.double 0)] (.double 0) := f31_17.other W40 (od_i1_el)
    have f40_13 : Arv Z h40 vl kvl .double (2 : Int32) [(.double 0), (.double 0)] (.double 0) := f31_19.other W40 (od_vl_el)
    have f40_14 : Arv Z h40 m0 km0 .double (4 : Int32) [(.double ux), (.double FP.dconst0), (.double FP.dconst1), (.double FP.dconst0)] (.double 0) := f31_20.other W40 (od_el_m0.symm)
    have f40_15 : Arv Z h40 m1 km1 .double (4 : Int32) [(.double FP.dconst0), (.double uy), (.double FP.dconst0), (.double FP.dconst1)] (.double 0) := V31.other W40 (od_el_m1.symm)
    have N40 := Fr.snoc X40 N31 g_el
    have Z40 : n0 ≤ h40.size := Nat.le_trans Z31 (Keep.of_wr W40).1
    have K40 : Keep h0 h40 [el, m0, m1, i0, i1, vl] := K31.wr W40 (Or.inl (List.mem_of_getElem? (i := 0) rfl))
    refine own_go (A := oW p e below T40 (oF_inv m 171 (oR sx) (oR el) (oi 0) (oi 0) (oR m0) .unset .unset .unset .unset .unset .unset [(.ref m0), (.int 0), (.ref el)])) (fun t k => by
      refine XS.aloadN X40.here hx rfl (hb hby o214_167) rfl rfl ?_
      refine XS.iloadN X40.here hx rfl (hb hby o214_168) rfl ?_
      refine XS.aload X40.here hx rfl (hb hby o214_169) rfl rfl ?_
      exact k) ?_
    obtain ⟨cl41, Ar41, q41, S41, N41, H41, G41⟩ := id (f40_6)
    have hi41 : ¬ ((0 : Int32) < 0 ∨ cl41.slots.size ≤ ((0 : Int32)).toNatClampNeg) := inb_of S41 ⟨by decide, by decide⟩
    obtain ⟨T42, h42, X42, e42, W42, st42⟩ := stR X40 hx hZ e40 Ar41 (j := (0 : Int32)) hi41 rfl (Sto.ofVA Ar41 q41 Oel (Ins.self (Gp15.keep K40))) (g := (oF_inv m 171 (oR sx) (oR el) (oi 0) (oi 0) (oR m0) .unset .unset .unset .unset .unset .unset [(.ref m0), (.int 0), (.ref el)])) rfl rfl (hb hby o214_171)
    refine own_go st42 ?_
    have V42 : Arv Z h42 el kel (.array .double) (2 : Int32) [(.ref m0), (.ref m1)] .null := Arv.set Ar41 q41 S41 N41 H41 G41 rfl W42 0 rfl (Nat.le_of_ble_eq_true rfl)
    have f42_6 : Arv Z h42 el kel (.array .double) (2 : Int32) [(.ref m0), (.ref m1)] .null := V42
    have f42_10 : Arv Z h42 i0 ki0 .double (2 : Int32) [(.double 0), (.double 0)] (.double 0) := f40_10.other W42 (od_i0_el)
    have f42_11 : Arv Z h42 i1 ki1 .double (2 : Int32) [(.double 0), (.double 0)] (.double 0) := f40_11.other W42 (od_i1_el)
    have f42_13 : Arv Z h42 vl kvl .double (2 : Int32) [(.double 0), (.double 0)] (.double 0) := f40_13.other W42 (od_vl_el)
    have f42_14 : Arv Z h42 m0 km0 .double (4 : Int32) [(.double ux), (.double FP.dconst0), (.double FP.dconst1), (.double FP.dconst0)] (.double 0) := f40_14.other W42 (od_el_m0.symm)
    have f42_15 : Arv Z h42 m1 km1 .double (4 : Int32) [(.double FP.dconst0), (.double uy), (.double FP.dconst0), (.double FP.dconst1)] (.double 0) := f40_15.other W42 (od_el_m1.symm)
    have N42 := Fr.snoc X42 N40 g_el
    have Z42 : n0 ≤ h42.size := Nat.le_trans Z40 (Keep.of_wr W42).1
    have K42 : Keep h0 h42 [el, m0, m1, i0, i1, vl] := K40.wr W42 (Or.inl (List.mem_of_getElem? (i := 0) rfl))
    refine own_go (A := oW p e below T42 (oF_inv m 186 (oR sx) (oR el) (oi 0) (oi 0) (oR m0) (od ux) .second (oi 0) .unset .unset .unset [(.ref sx), (.int 2), (.int 0)])) (fun t k => by
      refine XS.aloadN X42.here hx rfl (hb hby o214_172) rfl rfl ?_
      refine XS.iloadN X42.here hx rfl (hb hby o214_173) rfl ?_
      show oW p e below T42 (oF_inv m 174 (oR sx) (oR el) (oi 0) (oi 0) (oR m0) .unset .unset .unset .unset .unset .unset [(.int 0), (.ref el)]) _
      refine own_ldA X42 hx hZ e42 f42_6 ⟨by decide, by decide⟩ (v := (.ref m0)) rfl (g := (oF_inv m 174 (oR sx) (oR el) (oi 0) (oi 0) (oR m0) .unset .unset .unset .unset .unset .unset [(.int 0), (.ref el)])) rfl rfl (hb hby o214_174) _ ?_
      refine XS.iloadN X42.here hx rfl (hb hby o214_175) rfl ?_
      refine own_ldD X42 hx hZ e42 f42_14 ⟨by decide, by decide⟩ (v := (.double ux)) rfl (g := (oF_inv m 176 (oR sx) (oR el) (oi 0) (oi 0) (oR m0) .unset .unset .unset .unset .unset .unset [(.int 0), (.ref m0)])) rfl rfl (hb hby o214_176) _ ?_
      refine XS.dstore X42.here hx rfl (hb hby o214_177) rfl (l' := #[(oR sx), (oR el), (oi 0), (oi 0), (oR m0), (od ux), .second, .unset, .unset, .unset, .unset]) rfl ?_
      refine XS.iconst X42.here hx rfl (hb hby o214_179) ?_
      refine XS.istore X42.here hx rfl (hb hby o214_180) rfl (l' := #[(oR sx), (oR el), (oi 0), (oi 0), (oR m0), (od ux), .second, (oi 0), .unset, .unset, .unset]) rfl ?_
      show oW p e below T42 (oF_inv m 182 (oR sx) (oR el) (oi 0) (oi 0) (oR m0) (od ux) .second (oi 0) .unset .unset .unset []) _
      refine XS.iload X42.here hx rfl (hb hby o214_182) rfl ?_
      refine XS.iconst X42.here hx rfl (hb hby o214_184) ?_
      refine XS.aloadN X42.here hx rfl (hb hby o214_185) rfl rfl ?_
      exact k) ?_
    obtain ⟨T43, X43, e43, st43⟩ := getF X42 hx hZ hown (host := "") (Or.inl ow25) Via.refl e42 (Gp1.keep K42 nn_sx) (g := (oF_inv m 186 (oR sx) (oR el) (oi 0) (oi 0) (oR m0) (od ux) .second (oi 0) .unset .unset .unset [(.ref sx), (.int 2), (.int 0)])) rfl rfl (hb hby o214_186)
    refine own_go st43 ?_
    refine own_go (A := oW p e below T43 (oF_inv m 203 (oR sx) (oR el) (oi 0) (oi 0) (oR m0) (od ux) .second (oi 0) .unset .unset .unset [(.double 4607182418800017408), (.int 0), (.ref m0)])) (fun t k => by
      refine XS.imul X43.here hx rfl (hb hby o214_189) rfl ?_
      refine XS.icmpNo X43.here hx rfl (hb hby o214_190) rfl (tlt (by decide : (0 : Int32) < (4 : Int32))).2.1 ?_
      refine XS.aloadN X43.here hx rfl (hb hby o214_193) rfl rfl ?_
      show oW p e below T43 (oF_inv m 194 (oR sx) (oR el) (oi 0) (oi 0) (oR m0) (od ux) .second (oi 0) .unset .unset .unset [(.ref el)]) _
      refine XS.iloadN X43.here hx rfl (hb hby o214_194) rfl ?_
      refine own_ldA X43 hx hZ e43 f42_6 ⟨by decide, by decide⟩ (v := (.ref m0)) rfl (g := (oF_inv m 195 (oR sx) (oR el) (oi 0) (oi 0) (oR m0) (od ux) .second (oi 0) .unset .unset .unset [(.int 0), (.ref el)])) rfl rfl (hb hby o214_195) _ ?_
      refine XS.iload X43.here hx rfl (hb hby o214_196) rfl ?_
      refine XT.dup2 X43.here hx rfl (hb hby o214_198) rfl rfl rfl ?_
      refine own_ldD X43 hx hZ e43 f42_14 ⟨by decide, by decide⟩ (v := (.double ux)) rfl (g := (oF_inv m 199 (oR sx) (oR el) (oi 0) (oi 0) (oR m0) (od ux) .second (oi 0) .unset .unset .unset [(.int 0), (.ref m0), (.int 0), (.ref m0)])) rfl rfl (hb hby o214_199) _ ?_
      refine XS.dload X43.here hx rfl (hb hby o214_200) rfl ?_
      show oW p e below T43 (oF_inv m 202 (oR sx) (oR el) (oi 0) (oi 0) (oR m0) (od ux) .second (oi 0) .unset .unset .unset [(.double ux), (.double ux), (.int 0), (.ref m0)]) _
      refine XS.ddivS X43.here hx rfl (hb hby o214_202) rfl (own_f4n hPx hPy) (own_f4 hPx hPy) ?_
      exact k) ?_
    obtain ⟨T44, h44, X44, e44, W44, U44, st44⟩ := own_stD X43 hx hZ e43 f42_14 (j := (0 : Int32)) ⟨by decide, by decide⟩ 0 rfl (Nat.le_of_ble_eq_true rfl) (g := (oF_inv m 203 (oR sx) (oR el) (oi 0) (oi 0) (oR m0) (od ux) .second (oi 0) .unset .unset .unset [(.double 4607182418800017408), (.int 0), (.ref m0)])) rfl rfl (hb hby o214_203)
    refine own_go st44 ?_
    have V44 : Arv Z h44 m0 km0 .double (4 : Int32) [(.double 4607182418800017408), (.double FP.dconst0), (.double FP.dconst1), (.double FP.dconst0)] (.double 0) := U44
    have f44_6 : Arv Z h44 el kel (.array .double) (2 : Int32) [(.ref m0), (.ref m1)] .null := f42_6.other W44 (od_el_m0)
    have f44_10 : Arv Z h44 i0 ki0 .double (2 : Int32) [(.double 0), (.double 0)] (.double 0) := f42_10.other W44 (od_i0_m0)
    have f44_11 : Arv Z h44 i1 ki1 .double (2 : Int32) [(.double 0), (.double 0)] (.double 0) := f42_11.other W44 (od_i1_m0)
    have f44_13 : Arv Z h44 vl kvl .double (2 : Int32) [(.double 0), (.double 0)] (.double 0) := f42_13.other W44 (od_vl_m0)
    have f44_15 : Arv Z h44 m1 km1 .double (4 : Int32) [(.double FP.dconst0), (.double uy), (.double FP.dconst0), (.double FP.dconst1)] (.double 0) := f42_15.other W44 (od_m0_m1.symm)
    have N44 := Fr.snoc X44 N42 g_m0
    have Z44 : n0 ≤ h44.size := Nat.le_trans Z42 (Keep.of_wr W44).1
    have K44 : Keep h0 h44 [el, m0, m1, i0, i1, vl] := K42.wr W44 (Or.inl (List.mem_of_getElem? (i := 1) rfl))
    refine own_go (A := oW p e below T44 (oF_inv m 186 (oR sx) (oR el) (oi 0) (oi 0) (oR m0) (od ux) .second (oi 1) .unset .unset .unset [(.ref sx), (.int 2), (.int 1)])) (fun t k => by
      refine XS.iinc X44.here hx rfl (hb hby o214_204) rfl (l' := #[(oR sx), (oR el), (oi 0), (oi 0), (oR m0), (od ux), .second, (oi 1), .unset, .unset, .unset]) rfl ?_
      refine XS.goto X44.here hx rfl (pc0 := 207) (pc' := 182) rfl (hb hby o214_207) (by decide) (by decide) ?_
      refine XS.iload X44.here hx rfl (hb hby o214_182) rfl ?_
      refine XS.iconst X44.here hx rfl (hb hby o214_184) ?_
      refine XS.aloadN X44.here hx rfl (hb hby o214_185) rfl rfl ?_
      exact k) ?_
    obtain ⟨T45, X45, e45, st45⟩ := getF X44 hx hZ hown (host := "") (Or.inl ow25) Via.refl e44 (Gp1.keep K44 nn_sx) (g := (oF_inv m 186 (oR sx) (oR el) (oi 0) (oi 0) (oR m0) (od ux) .second (oi 1) .unset .unset .unset [(.ref sx), (.int 2), (.int 1)])) rfl rfl (hb hby o214_186)
    refine own_go st45 ?_
    refine own_go (A := oW p e below T45 (oF_inv m 203 (oR sx) (oR el) (oi 0) (oi 0) (oR m0) (od ux) .second (oi 1) .unset .unset .unset [(.double 0), (.int 1), (.ref m0)])) (fun t k => by
      refine XS.imul X45.here hx rfl (hb hby o214_189) rfl ?_
      refine XS.icmpNo X45.here hx rfl (hb hby o214_190) rfl (tlt (by decide : (1 : Int32) < (4 : Int32))).2.1 ?_
      refine XS.aloadN X45.here hx rfl (hb hby o214_193) rfl rfl ?_
      refine XS.iloadN X45.here hx rfl (hb hby o214_194) rfl ?_
      refine own_ldA X45 hx hZ e45 f44_6 ⟨by decide, by decide⟩ (v := (.ref m0)) rfl (g := (oF_inv m 195 (oR sx) (oR el) (oi 0) (oi 0) (oR m0) (od ux) .second (oi 1) .unset .unset .unset [(.int 0), (.ref el)])) rfl rfl (hb hby o214_195) _ ?_
      refine XS.iload X45.here hx rfl (hb hby o214_196) rfl ?_
      show oW p e below T45 (oF_inv m 198 (oR sx) (oR el) (oi 0) (oi 0) (oR m0) (od ux) .second (oi 1) .unset .unset .unset [(.int 1), (.ref m0)]) _
      refine XT.dup2 X45.here hx rfl (hb hby o214_198) rfl rfl rfl ?_
      refine own_ldD X45 hx hZ e45 V44 ⟨by decide, by decide⟩ (v := (.double FP.dconst0)) rfl (g := (oF_inv m 199 (oR sx) (oR el) (oi 0) (oi 0) (oR m0) (od ux) .second (oi 1) .unset .unset .unset [(.int 1), (.ref m0), (.int 1), (.ref m0)])) rfl rfl (hb hby o214_199) _ ?_
      refine XS.dload X45.here hx rfl (hb hby o214_200) rfl ?_
      refine XS.ddivS X45.here hx rfl (hb hby o214_202) rfl (own_f5n hPx hPy) (own_f5 hPx hPy) ?_
      exact k) ?_
    obtain ⟨T46, h46, X46, e46, W46, U46, st46⟩ := own_stD X45 hx hZ e45 V44 (j := (1 : Int32)) ⟨by decide, by decide⟩ 1 rfl (Nat.le_of_ble_eq_true rfl) (g := (oF_inv m 203 (oR sx) (oR el) (oi 0) (oi 0) (oR m0) (od ux) .second (oi 1) .unset .unset .unset [(.double 0), (.int 1), (.ref m0)])) rfl rfl (hb hby o214_203)
    refine own_go st46 ?_
    have V46 : Arv Z h46 m0 km0 .double (4 : Int32) [(.double 4607182418800017408), (.double 0), (.double FP.dconst1), (.double FP.dconst0)] (.double 0) := U46
    have f46_6 : Arv Z h46 el kel (.array .double) (2 : Int32) [(.ref m0), (.ref m1)] .null := f44_6.other W46 (od_el_m0)
    have f46_10 : Arv Z h46 i0 ki0 .double (2 : Int32) [(.double 0), (.double 0)] (.double 0) := f44_10.other W46 (od_i0_m0)
    have f46_11 : Arv Z h46 i1 ki1 .double (2 : Int32) [(.double 0), (.double 0)] (.double 0) := f44_11.other W46 (od_i1_m0)
    have f46_13 : Arv Z h46 vl kvl .double (2 : Int32) [(.double 0), (.double 0)] (.double 0) := f44_13.other W46 (od_vl_m0)
    have f46_14 : Arv Z h46 m1 km1 .double (4 : Int32) [(.double FP.dconst0), (.double uy), (.double FP.dconst0), (.double FP.dconst1)] (.double 0) := f44_15.other W46 (od_m0_m1.symm)
    have N46 := Fr.snoc X46 N44 g_m0
    have Z46 : n0 ≤ h46.size := Nat.le_trans Z44 (Keep.of_wr W46).1
    have K46 : Keep h0 h46 [el, m0, m1, i0, i1, vl] := K44.wr W46 (Or.inl (List.mem_of_getElem? (i := 1) rfl))
    refine own_go (A := oW p e below T46 (oF_inv m 186 (oR sx) (oR el) (oi 0) (oi 0) (oR m0) (od ux) .second (oi 2) .unset .unset .unset [(.ref sx), (.int 2), (.int 2)])) (fun t k => by
      refine XS.iinc X46.here hx rfl (hb hby o214_204) rfl (l' := #[(oR sx), (oR el), (oi 0), (oi 0), (oR m0), (od ux), .second, (oi 2), .unset, .unset, .unset]) rfl ?_
      refine XS.goto X46.here hx rfl (pc0 := 207) (pc' := 182) rfl (hb hby o214_207) (by decide) (by decide) ?_
      show oW p e below T46 (oF_inv m 182 (oR sx) (oR el) (oi 0) (oi 0) (oR m0) (od ux) .second (oi 2) .unset .unset .unset []) _
      refine XS.iload X46.here hx rfl (hb hby o214_182) rfl ?_
      refine XS.iconst X46.here hx rfl (hb hby o214_184) ?_
      refine XS.aloadN X46.here hx rfl (hb hby o214_185) rfl rfl ?_
      exact k) ?_
    obtain ⟨T47, X47, e47, st47⟩ := getF X46 hx hZ hown (host := "") (Or.inl ow25) Via.refl e46 (Gp1.keep K46 nn_sx) (g := (oF_inv m 186 (oR sx) (oR el) (oi 0) (oi 0) (oR m0) (od ux) .second (oi 2) .unset .unset .unset [(.ref sx), (.int 2), (.int 2)])) rfl rfl (hb hby o214_186)
    refine own_go st47 ?_
    refine own_go (A := oW p e below T47 (oF_inv m 203 (oR sx) (oR el) (oi 0) (oi 0) (oR m0) (od ux) .second (oi 2) .unset .unset .unset [(.double vx), (.int 2), (.ref m0)])) (fun t k => by
      refine XS.imul X47.here hx rfl (hb hby o214_189) rfl ?_
      refine XS.icmpNo X47.here hx rfl (hb hby o214_190) rfl (tlt (by decide : (2 : Int32) < (4 : Int32))).2.1 ?_
      refine XS.aloadN X47.here hx rfl (hb hby o214_193) rfl rfl ?_
      show oW p e below T47 (oF_inv m 194 (oR sx) (oR el) (oi 0) (oi 0) (oR m0) (od ux) .second (oi 2) .unset .unset .unset [(.ref el)]) _
      refine XS.iloadN X47.here hx rfl (hb hby o214_194) rfl ?_
      refine own_ldA X47 hx hZ e47 f46_6 ⟨by decide, by decide⟩ (v := (.ref m0)) rfl (g := (oF_inv m 195 (oR sx) (oR el) (oi 0) (oi 0) (oR m0) (od ux) .second (oi 2) .unset .unset .unset [(.int 0), (.ref el)])) rfl rfl (hb hby o214_195) _ ?_
      refine XS.iload X47.here hx rfl (hb hby o214_196) rfl ?_
      refine XT.dup2 X47.here hx rfl (hb hby o214_198) rfl rfl rfl ?_
      refine own_ldD X47 hx hZ e47 V46 ⟨by decide, by decide⟩ (v := (.double FP.dconst1)) rfl (g := (oF_inv m 199 (oR sx) (oR el) (oi 0) (oi 0) (oR m0) (od ux) .second (oi 2) .unset .unset .unset [(.int 2), (.ref m0), (.int 2), (.ref m0)])) rfl rfl (hb hby o214_199) _ ?_
      refine XS.dload X47.here hx rfl (hb hby o214_200) rfl ?_
      show oW p e below T47 (oF_inv m 202 (oR sx) (oR el) (oi 0) (oi 0) (oR m0) (od ux) .second (oi 2) .unset .unset .unset [(.double ux), (.double FP.dconst1), (.int 2), (.ref m0)]) _
      refine XS.ddivS X47.here hx rfl (hb hby o214_202) rfl (own_f6n hPx hPy) (own_f6 hPx hPy) ?_
      exact k) ?_
    obtain ⟨T48, h48, X48, e48, W48, U48, st48⟩ := own_stD X47 hx hZ e47 V46 (j := (2 : Int32)) ⟨by decide, by decide⟩ 2 rfl (Nat.le_of_ble_eq_true rfl) (g := (oF_inv m 203 (oR sx) (oR el) (oi 0) (oi 0) (oR m0) (od ux) .second (oi 2) .unset .unset .unset [(.double vx), (.int 2), (.ref m0)])) rfl rfl (hb hby o214_203)
    refine own_go st48 ?_
    have V48 : Arv Z h48 m0 km0 .double (4 : Int32) [(.double 4607182418800017408), (.double 0), (.double vx), (.double FP.dconst0)] (.double 0) := U48
    have f48_6 : Arv Z h48 el kel (.array .double) (2 : Int32) [(.ref m0), (.ref m1)] .null := f46_6.other W48 (od_el_m0)
    have f48_10 : Arv Z h48 i0 ki0 .double (2 : Int32) [(.double 0), (.double 0)] (.double 0) := f46_10.other W48 (od_i0_m0)
    have f48_11 : Arv Z h48 i1 ki1 .double (2 : Int32) [(.double 0), (.double 0)] (.double 0) := f46_11.other W48 (od_i1_m0)
    have f48_13 : Arv Z h48 vl kvl .double (2 : Int32) [(.double 0), (.double 0)] (.double 0) := f46_13.other W48 (od_vl_m0)
    have f48_14 : Arv Z h48 m1 km1 .double (4 : Int32) [(.double FP.dconst0), (.double uy), (.double FP.dconst0), (.double FP.dconst1)] (.double 0) := f46_14.other W48 (od_m0_m1.symm)
    have N48 := Fr.snoc X48 N46 g_m0
    have Z48 : n0 ≤ h48.size := Nat.le_trans Z46 (Keep.of_wr W48).1
    have K48 : Keep h0 h48 [el, m0, m1, i0, i1, vl] := K46.wr W48 (Or.inl (List.mem_of_getElem? (i := 1) rfl))
    refine own_go (A := oW p e below T48 (oF_inv m 186 (oR sx) (oR el) (oi 0) (oi 0) (oR m0) (od ux) .second (oi 3) .unset .unset .unset [(.ref sx), (.int 2), (.int 3)])) (fun t k => by
      refine XS.iinc X48.here hx rfl (hb hby o214_204) rfl (l' := #[(oR sx), (oR el), (oi 0), (oi 0), (oR m0), (od ux), .second, (oi 3), .unset, .unset, .unset]) rfl ?_
      refine XS.goto X48.here hx rfl (pc0 := 207) (pc' := 182) rfl (hb hby o214_207) (by decide) (by decide) ?_
      refine XS.iload X48.here hx rfl (hb hby o214_182) rfl ?_
      refine XS.iconst X48.here hx rfl (hb hby o214_184) ?_
      refine XS.aloadN X48.here hx rfl (hb hby o214_185) rfl rfl ?_
      exact k) ?_
    obtain ⟨T49, X49, e49, st49⟩ := getF X48 hx hZ hown (host := "") (Or.inl ow25) Via.refl e48 (Gp1.keep K48 nn_sx) (g := (oF_inv m 186 (oR sx) (oR el) (oi 0) (oi 0) (oR m0) (od ux) .second (oi 3) .unset .unset .unset [(.ref sx), (.int 2), (.int 3)])) rfl rfl (hb hby o214_186)
    refine own_go st49 ?_
    refine own_go (A := oW p e below T49 (oF_inv m 203 (oR sx) (oR el) (oi 0) (oi 0) (oR m0) (od ux) .second (oi 3) .unset .unset .unset [(.double 0), (.int 3), (.ref m0)])) (fun t k => by
      refine XS.imul X49.here hx rfl (hb hby o214_189) rfl ?_
      refine XS.icmpNo X49.here hx rfl (hb hby o214_190) rfl (tlt (by decide : (3 : Int32) < (4 : Int32))).2.1 ?_
      refine XS.aloadN X49.here hx rfl (hb hby o214_193) rfl rfl ?_
      refine XS.iloadN X49.here hx rfl (hb hby o214_194) rfl ?_
      refine own_ldA X49 hx hZ e49 f48_6 ⟨by decide, by decide⟩ (v := (.ref m0)) rfl (g := (oF_inv m 195 (oR sx) (oR el) (oi 0) (oi 0) (oR m0) (od ux) .second (oi 3) .unset .unset .unset [(.int 0), (.ref el)])) rfl rfl (hb hby o214_195) _ ?_
      refine XS.iload X49.here hx rfl (hb hby o214_196) rfl ?_
      show oW p e below T49 (oF_inv m 198 (oR sx) (oR el) (oi 0) (oi 0) (oR m0) (od ux) .second (oi 3) .unset .unset .unset [(.int 3), (.ref m0)]) _
      refine XT.dup2 X49.here hx rfl (hb hby o214_198) rfl rfl rfl ?_
      refine own_ldD X49 hx hZ e49 V48 ⟨by decide, by decide⟩ (v := (.double FP.dconst0)) rfl (g := (oF_inv m 199 (oR sx) (oR el) (oi 0) (oi 0) (oR m0) (od ux) .second (oi 3) .unset .unset .unset [(.int 3), (.ref m0), (.int 3), (.ref m0)])) rfl rfl (hb hby o214_199) _ ?_
      refine XS.dload X49.here hx rfl (hb hby o214_200) rfl ?_
      refine XS.ddivS X49.here hx rfl (hb hby o214_202) rfl (own_f5n hPx hPy) (own_f5 hPx hPy) ?_
      exact k) ?_
    obtain ⟨T50, h50, X50, e50, W50, U50, st50⟩ := own_stD X49 hx hZ e49 V48 (j := (3 : Int32)) ⟨by decide, by decide⟩ 3 rfl (Nat.le_of_ble_eq_true rfl) (g := (oF_inv m 203 (oR sx) (oR el) (oi 0) (oi 0) (oR m0) (od ux) .second (oi 3) .unset .unset .unset [(.double 0), (.int 3), (.ref m0)])) rfl rfl (hb hby o214_203)
    refine own_go st50 ?_
    have V50 : Arv Z h50 m0 km0 .double (4 : Int32) [(.double 4607182418800017408), (.double 0), (.double vx), (.double 0)] (.double 0) := U50
    have f50_6 : Arv Z h50 el kel (.array .double) (2 : Int32) [(.ref m0), (.ref m1)] .null := f48_6.other W50 (od_el_m0)
    have f50_10 : Arv Z h50 i0 ki0 .double (2 : Int32) [(.double 0), (.double 0)] (.double 0) := f48_10.other W50 (od_i0_m0)
    have f50_11 : Arv Z h50 i1 ki1 .double (2 : Int32) [(.double 0), (.double 0)] (.double 0) := f48_11.other W50 (od_i1_m0)
    have f50_13 : Arv Z h50 vl kvl .double (2 : Int32) [(.double 0), (.double 0)] (.double 0) := f48_13.other W50 (od_vl_m0)
    have f50_14 : Arv Z h50 m1 km1 .double (4 : Int32) [(.double FP.dconst0), (.double uy), (.double FP.dconst0), (.double FP.dconst1)] (.double 0) := f48_14.other W50 (od_m0_m1.symm)
    have N50 := Fr.snoc X50 N48 g_m0
    have Z50 : n0 ≤ h50.size := Nat.le_trans Z48 (Keep.of_wr W50).1
    have K50 : Keep h0 h50 [el, m0, m1, i0, i1, vl] := K48.wr W50 (Or.inl (List.mem_of_getElem? (i := 1) rfl))
    refine own_go (A := oW p e below T50 (oF_inv m 186 (oR sx) (oR el) (oi 0) (oi 0) (oR m0) (od ux) .second (oi 4) .unset .unset .unset [(.ref sx), (.int 2), (.int 4)])) (fun t k => by
      refine XS.iinc X50.here hx rfl (hb hby o214_204) rfl (l' := #[(oR sx), (oR el), (oi 0), (oi 0), (oR m0), (od ux), .second, (oi 4), .unset, .unset, .unset]) rfl ?_
      refine XS.goto X50.here hx rfl (pc0 := 207) (pc' := 182) rfl (hb hby o214_207) (by decide) (by decide) ?_
      show oW p e below T50 (oF_inv m 182 (oR sx) (oR el) (oi 0) (oi 0) (oR m0) (od ux) .second (oi 4) .unset .unset .unset []) _
      refine XS.iload X50.here hx rfl (hb hby o214_182) rfl ?_
      refine XS.iconst X50.here hx rfl (hb hby o214_184) ?_
      refine XS.aloadN X50.here hx rfl (hb hby o214_185) rfl rfl ?_
      exact k) ?_
    obtain ⟨T51, X51, e51, st51⟩ := getF X50 hx hZ hown (host := "") (Or.inl ow25) Via.refl e50 (Gp1.keep K50 nn_sx) (g := (oF_inv m 186 (oR sx) (oR el) (oi 0) (oi 0) (oR m0) (od ux) .second (oi 4) .unset .unset .unset [(.ref sx), (.int 2), (.int 4)])) rfl rfl (hb hby o214_186)
    refine own_go st51 ?_
    refine own_go (A := oW p e below T51 (oF_inv m 216 (oR sx) (oR el) (oi 0) (oi 0) (oR m0) (od ux) .second (oi 0) .unset .unset .unset [(.ref sx), (.int 0)])) (fun t k => by
      refine XS.imul X51.here hx rfl (hb hby o214_189) rfl ?_
      refine XS.icmpYes X51.here hx rfl (pc0 := 190) (pc' := 210) rfl (hb hby o214_190) rfl (flt (by decide : ¬ ((4 : Int32) < (4 : Int32)))).2.1 (by decide) (by decide) ?_
      refine XS.iconst X51.here hx rfl (hb hby o214_210) ?_
      show oW p e below T51 (oF_inv m 211 (oR sx) (oR el) (oi 0) (oi 0) (oR m0) (od ux) .second (oi 4) .unset .unset .unset [(.int 0)]) _
      refine XS.istore X51.here hx rfl (hb hby o214_211) rfl (l' := #[(oR sx), (oR el), (oi 0), (oi 0), (oR m0), (od ux), .second, (oi 0), .unset, .unset, .unset]) rfl ?_
      refine XS.iload X51.here hx rfl (hb hby o214_213) rfl ?_
      refine XS.aloadN X51.here hx rfl (hb hby o214_215) rfl rfl ?_
      exact k) ?_
    obtain ⟨T52, X52, e52, st52⟩ := getF X51 hx hZ hown (host := "") (Or.inl ow25) Via.refl e51 (Gp1.keep K50 nn_sx) (g := (oF_inv m 216 (oR sx) (oR el) (oi 0) (oi 0) (oR m0) (od ux) .second (oi 0) .unset .unset .unset [(.ref sx), (.int 0)])) rfl rfl (hb hby o214_216)
    refine own_go st52 ?_
    refine own_go (A := oW p e below T52 (oF_inv m 216 (oR sx) (oR el) (oi 0) (oi 0) (oR m0) (od ux) .second (oi 1) (od 4607182418800017408) .second .unset [(.ref sx), (.int 1)])) (fun t k => by
      refine XS.icmpNo X52.here hx rfl (hb hby o214_219) rfl (tlt (by decide : (0 : Int32) < (2 : Int32))).2.1 ?_
      refine XS.aloadN X52.here hx rfl (hb hby o214_222) rfl rfl ?_
      refine XS.iload X52.here hx rfl (hb hby o214_223) rfl ?_
      show oW p e below T52 (oF_inv m 225 (oR sx) (oR el) (oi 0) (oi 0) (oR m0) (od ux) .second (oi 0) .unset .unset .unset [(.int 0), (.ref el)]) _
      refine own_ldA X52 hx hZ e52 f50_6 ⟨by decide, by decide⟩ (v := (.ref m0)) rfl (g := (oF_inv m 225 (oR sx) (oR el) (oi 0) (oi 0) (oR m0) (od ux) .second (oi 0) .unset .unset .unset [(.int 0), (.ref el)])) rfl rfl (hb hby o214_225) _ ?_
      refine XS.iloadN X52.here hx rfl (hb hby o214_226) rfl ?_
      refine own_ldD X52 hx hZ e52 V50 ⟨by decide, by decide⟩ (v := (.double 4607182418800017408)) rfl (g := (oF_inv m 227 (oR sx) (oR el) (oi 0) (oi 0) (oR m0) (od ux) .second (oi 0) .unset .unset .unset [(.int 0), (.ref m0)])) rfl rfl (hb hby o214_227) _ ?_
      refine XS.dstore X52.here hx rfl (hb hby o214_228) rfl (l' := #[(oR sx), (oR el), (oi 0), (oi 0), (oR m0), (od ux), .second, (oi 0), (od 4607182418800017408), .second, .unset]) rfl ?_
      refine XS.iload X52.here hx rfl (hb hby o214_230) rfl ?_
      refine XS.iloadN X52.here hx rfl (hb hby o214_232) rfl ?_
      show oW p e below T52 (oF_inv m 233 (oR sx) (oR el) (oi 0) (oi 0) (oR m0) (od ux) .second (oi 0) (od 4607182418800017408) .second .unset [(.int 0), (.int 0)]) _
      refine XS.icmpYes X52.here hx rfl (pc0 := 233) (pc' := 282) rfl (hb hby o214_233) rfl (teq (by decide : (0 : Int32) = (0 : Int32))).1 (by decide) (by decide) ?_
      refine XS.iinc X52.here hx rfl (hb hby o214_282) rfl (l' := #[(oR sx), (oR el), (oi 0), (oi 0), (oR m0), (od ux), .second, (oi 1), (od 4607182418800017408), .second, .unset]) rfl ?_
      refine XS.goto X52.here hx rfl (pc0 := 285) (pc' := 213) rfl (hb hby o214_285) (by decide) (by decide) ?_
      refine XS.iload X52.here hx rfl (hb hby o214_213) rfl ?_
      refine XS.aloadN X52.here hx rfl (hb hby o214_215) rfl rfl ?_
      exact k) ?_
    obtain ⟨T53, X53, e53, st53⟩ := getF X52 hx hZ hown (host := "") (Or.inl ow25) Via.refl e52 (Gp1.keep K50 nn_sx) (g := (oF_inv m 216 (oR sx) (oR el) (oi 0) (oi 0) (oR m0) (od ux) .second (oi 1) (od 4607182418800017408) .second .unset [(.ref sx), (.int 1)])) rfl rfl (hb hby o214_216)
    refine own_go st53 ?_
    refine own_go (A := oW p e below T53 (oF_inv m 216 (oR sx) (oR el) (oi 0) (oi 0) (oR m0) (od ux) .second (oi 2) (od FP.dconst0) .second .unset [(.ref sx), (.int 2)])) (fun t k => by
      refine XS.icmpNo X53.here hx rfl (hb hby o214_219) rfl (tlt (by decide : (1 : Int32) < (2 : Int32))).2.1 ?_
      show oW p e below T53 (oF_inv m 222 (oR sx) (oR el) (oi 0) (oi 0) (oR m0) (od ux) .second (oi 1) (od 4607182418800017408) .second .unset []) _
      refine XS.aloadN X53.here hx rfl (hb hby o214_222) rfl rfl ?_
      refine XS.iload X53.here hx rfl (hb hby o214_223) rfl ?_
      refine own_ldA X53 hx hZ e53 f50_6 ⟨by decide, by decide⟩ (v := (.ref m1)) rfl (g := (oF_inv m 225 (oR sx) (oR el) (oi 0) (oi 0) (oR m0) (od ux) .second (oi 1) (od 4607182418800017408) .second .unset [(.int 1), (.ref el)])) rfl rfl (hb hby o214_225) _ ?_
      refine XS.iloadN X53.here hx rfl (hb hby o214_226) rfl ?_
      refine own_ldD X53 hx hZ e53 f50_14 ⟨by decide, by decide⟩ (v := (.double FP.dconst0)) rfl (g := (oF_inv m 227 (oR sx) (oR el) (oi 0) (oi 0) (oR m0) (od ux) .second (oi 1) (od 4607182418800017408) .second .unset [(.int 0), (.ref m1)])) rfl rfl (hb hby o214_227) _ ?_
      refine XS.dstore X53.here hx rfl (hb hby o214_228) rfl (l' := #[(oR sx), (oR el), (oi 0), (oi 0), (oR m0), (od ux), .second, (oi 1), (od FP.dconst0), .second, .unset]) rfl ?_
      show oW p e below T53 (oF_inv m 230 (oR sx) (oR el) (oi 0) (oi 0) (oR m0) (od ux) .second (oi 1) (od FP.dconst0) .second .unset []) _
      refine XS.iload X53.here hx rfl (hb hby o214_230) rfl ?_
      refine XS.iloadN X53.here hx rfl (hb hby o214_232) rfl ?_
      refine XS.icmpNo X53.here hx rfl (hb hby o214_233) rfl (feq (by decide : ¬ ((1 : Int32) = (0 : Int32)))).1 ?_
      refine XS.dload X53.here hx rfl (hb hby o214_236) rfl ?_
      refine XS.dconst0 X53.here hx rfl (hb hby o214_238) rfl ?_
      refine XS.dcmpS X53.here hx rfl (hb hby o214_239) rfl (own_f7 hPx hPy) ?_
      show oW p e below T53 (oF_inv m 240 (oR sx) (oR el) (oi 0) (oi 0) (oR m0) (od ux) .second (oi 1) (od FP.dconst0) .second .unset [(.int 0)]) _
      refine XS.ifYes X53.here hx rfl (pc0 := 240) (pc' := 282) rfl (hb hby o214_240) rfl ((if0 _ _).trans (teq (by decide : (0 : Int32) = (0 : Int32))).1) (by decide) (by decide) ?_
      refine XS.iinc X53.here hx rfl (hb hby o214_282) rfl (l' := #[(oR sx), (oR el), (oi 0), (oi 0), (oR m0), (od ux), .second, (oi 2), (od FP.dconst0), .second, .unset]) rfl ?_
      refine XS.goto X53.here hx rfl (pc0 := 285) (pc' := 213) rfl (hb hby o214_285) (by decide) (by decide) ?_
      refine XS.iload X53.here hx rfl (hb hby o214_213) rfl ?_
      refine XS.aloadN X53.here hx rfl (hb hby o214_215) rfl rfl ?_
      exact k) ?_
    obtain ⟨T54, X54, e54, st54⟩ := getF X53 hx hZ hown (host := "") (Or.inl ow25) Via.refl e53 (Gp1.keep K50 nn_sx) (g := (oF_inv m 216 (oR sx) (oR el) (oi 0) (oi 0) (oR m0) (od ux) .second (oi 2) (od FP.dconst0) .second .unset [(.ref sx), (.int 2)])) rfl rfl (hb hby o214_216)
    refine own_go st54 ?_
    refine own_go (A := oW p e below T54 (oF_inv m 87 (oR sx) (oR el) (oi 1) (oi 0) (oR m0) (od ux) .second (oi 2) (od FP.dconst0) .second .unset [(.ref sx), (.int 1)])) (fun t k => by
      refine XS.icmpYes X54.here hx rfl (pc0 := 219) (pc' := 288) rfl (hb hby o214_219) rfl (flt (by decide : ¬ ((2 : Int32) < (2 : Int32)))).2.1 (by decide) (by decide) ?_
      show oW p e below T54 (oF_inv m 288 (oR sx) (oR el) (oi 0) (oi 0) (oR m0) (od ux) .second (oi 2) (od FP.dconst0) .second .unset []) _
      refine XS.iinc X54.here hx rfl (hb hby o214_288) rfl (l' := #[(oR sx), (oR el), (oi 1), (oi 0), (oR m0), (od ux), .second, (oi 2), (od FP.dconst0), .second, .unset]) rfl ?_
      refine XS.goto X54.here hx rfl (pc0 := 291) (pc' := 85) rfl (hb hby o214_291) (by decide) (by decide) ?_
      refine XS.iloadN X54.here hx rfl (hb hby o214_85) rfl ?_
      refine XS.aloadN X54.here hx rfl (hb hby o214_86) rfl rfl ?_
      exact k) ?_
    obtain ⟨T55, X55, e55, st55⟩ := getF X54 hx hZ hown (host := "") (Or.inl ow25) Via.refl e54 (Gp1.keep K50 nn_sx) (g := (oF_inv m 87 (oR sx) (oR el) (oi 1) (oi 0) (oR m0) (od ux) .second (oi 2) (od FP.dconst0) .second .unset [(.ref sx), (.int 1)])) rfl rfl (hb hby o214_87)
    refine own_go st55 ?_
    refine own_go (A := oW p e below T55 (oF_inv m 103 (oR sx) (oR el) (oi 1) (oi 1) (oi 2) (od ux) .second (oi 2) (od FP.dconst0) .second .unset [(.ref sx), (.int 2)])) (fun t k => by
      refine XS.icmpNo X55.here hx rfl (hb hby o214_90) rfl (tlt (by decide : (1 : Int32) < (2 : Int32))).2.1 ?_
      refine XS.iloadN X55.here hx rfl (hb hby o214_93) rfl ?_
      show oW p e below T55 (oF_inv m 94 (oR sx) (oR el) (oi 1) (oi 0) (oR m0) (od ux) .second (oi 2) (od FP.dconst0) .second .unset [(.int 1)]) _
      refine XS.istoreN X55.here hx rfl (hb hby o214_94) rfl (l' := #[(oR sx), (oR el), (oi 1), (oi 1), (oR m0), (od ux), .second, (oi 2), (od FP.dconst0), .second, .unset]) rfl ?_
      refine XS.iloadN X55.here hx rfl (hb hby o214_95) rfl ?_
      refine XS.iconst X55.here hx rfl (hb hby o214_96) ?_
      refine XS.iadd X55.here hx rfl (hb hby o214_97) rfl ?_
      refine XS.istore X55.here hx rfl (hb hby o214_98) rfl (l' := #[(oR sx), (oR el), (oi 1), (oi 1), (oi 2), (od ux), .second, (oi 2), (od FP.dconst0), .second, .unset]) rfl ?_
      refine XS.iload X55.here hx rfl (hb hby o214_100) rfl ?_
      show oW p e below T55 (oF_inv m 102 (oR sx) (oR el) (oi 1) (oi 1) (oi 2) (od ux) .second (oi 2) (od FP.dconst0) .second .unset [(.int 2)]) _
      refine XS.aloadN X55.here hx rfl (hb hby o214_102) rfl rfl ?_
      exact k) ?_
    obtain ⟨T56, X56, e56, st56⟩ := getF X55 hx hZ hown (host := "") (Or.inl ow25) Via.refl e55 (Gp1.keep K50 nn_sx) (g := (oF_inv m 103 (oR sx) (oR el) (oi 1) (oi 1) (oi 2) (od ux) .second (oi 2) (od FP.dconst0) .second .unset [(.ref sx), (.int 2)])) rfl rfl (hb hby o214_103)
    refine own_go st56 ?_
    refine own_go (A := oW p e below T56 (oF_inv m 144 (oR sx) (oR el) (oi 1) (oi 1) (oi 2) (od ux) .second (oi 2) (od FP.dconst0) .second .unset [(.double uy)])) (fun t k => by
      refine XS.icmpYes X56.here hx rfl (pc0 := 106) (pc' := 139) rfl (hb hby o214_106) rfl (flt (by decide : ¬ ((2 : Int32) < (2 : Int32)))).2.1 (by decide) (by decide) ?_
      refine XS.aloadN X56.here hx rfl (hb hby o214_139) rfl rfl ?_
      refine XS.iloadN X56.here hx rfl (hb hby o214_140) rfl ?_
      refine own_ldA X56 hx hZ e56 f50_6 ⟨by decide, by decide⟩ (v := (.ref m1)) rfl (g := (oF_inv m 141 (oR sx) (oR el) (oi 1) (oi 1) (oi 2) (od ux) .second (oi 2) (od FP.dconst0) .second .unset [(.int 1), (.ref el)])) rfl rfl (hb hby o214_141) _ ?_
      refine XS.iloadN X56.here hx rfl (hb hby o214_142) rfl ?_
      show oW p e below T56 (oF_inv m 143 (oR sx) (oR el) (oi 1) (oi 1) (oi 2) (od ux) .second (oi 2) (od FP.dconst0) .second .unset [(.int 1), (.ref m1)]) _
      refine own_ldD X56 hx hZ e56 f50_14 ⟨by decide, by decide⟩ (v := (.double uy)) rfl (g := (oF_inv m 143 (oR sx) (oR el) (oi 1) (oi 1) (oi 2) (od ux) .second (oi 2) (od FP.dconst0) .second .unset [(.int 1), (.ref m1)])) rfl rfl (hb hby o214_143) _ ?_
      exact k) ?_
    obtain ⟨_, vm57, B57, -, X57q, ⟨hr57, hB57⟩, st57⟩ := Jvm.LawKit.callS X56 hx (y := (⟨"java/lang/Math", "abs", "(D)D"⟩ : MethodName)) hown (mvT hZ ow76) (mvT hZ ow77) (mvT hZ ow78) (mvT hZ ow79) (by decide) (Jvm.Free.Fl.Abs.absD_pays (W := 0) uy (mvT hZ ow79) (by decide) (by decide)) (g := (oF_inv m 144 (oR sx) (oR el) (oi 1) (oi 1) (oi 2) (od ux) .second (oi 2) (od FP.dconst0) .second .unset [(.double uy)])) rfl (by rw [hml]; rfl) (argsL := [(.double uy)]) (rest := []) (lenOf own_pd_28D29D rfl) rfl (by show 2 * 0 + _ ≤ _; exact Nat.le_of_eq rfl) (hb hby o214_144) (fun _ _ => ⟨(by decide : 0 ≤ _), (by decide : 0 ≤ _), rfl, (own_s2 hPx hPy)⟩)
    subst hB57; subst hr57
    obtain ⟨T57, eT57⟩ : ∃ z, z = T56.setVm vm57 := ⟨_, rfl⟩
    dsimp only [Pt.U, Pt.locs, Pt.cells, Pt.slots] at X57q st57
    rw [← eT57] at X57q st57
    have X57 := X57q
    have e57 : T57.heap = h50 := by rw [eT57]; exact e56
    rw [own_f8 hPx hPy] at st57
    refine own_go st57 ?_
    refine own_go (A := oW p e below T57 (oF_inv m 166 (oR sx) (oR el) (oi 1) (oi 1) (oR m1) (od ux) .second (oi 2) (od FP.dconst0) .second .unset [(.ref m1), (.int 1), (.ref el)])) (fun t k => by
      refine X57.ldc2DoubleC hx hown (mvT hZ ow80) (g := (oF_inv m 147 (oR sx) (oR el) (oi 1) (oi 1) (oi 2) (od ux) .second (oi 2) (od FP.dconst0) .second .unset [(.double uy)])) rfl (hb hby o214_147) _ ?_
      refine XS.dcmpS X57.here hx rfl (hb hby o214_150) rfl (own_f9 hPx hPy) ?_
      refine XS.ifYes X57.here hx rfl (pc0 := 151) (pc' := 156) rfl (hb hby o214_151) rfl ((if0 _ _).trans (tlt (by decide : (0 : Int32) < (1 : Int32))).2.2.1) (by decide) (by decide) ?_
      refine XS.aloadN X57.here hx rfl (hb hby o214_156) rfl rfl ?_
      refine XS.iloadN X57.here hx rfl (hb hby o214_157) rfl ?_
      show oW p e below T57 (oF_inv m 158 (oR sx) (oR el) (oi 1) (oi 1) (oi 2) (od ux) .second (oi 2) (od FP.dconst0) .second .unset [(.int 1), (.ref el)]) _
      refine own_ldA X57 hx hZ e57 f50_6 ⟨by decide, by decide⟩ (v := (.ref m1)) rfl (g := (oF_inv m 158 (oR sx) (oR el) (oi 1) (oi 1) (oi 2) (od ux) .second (oi 2) (od FP.dconst0) .second .unset [(.int 1), (.ref el)])) rfl rfl (hb hby o214_158) _ ?_
      refine XS.astore X57.here hx rfl (hb hby o214_159) rfl rfl (l' := #[(oR sx), (oR el), (oi 1), (oi 1), (oR m1), (od ux), .second, (oi 2), (od FP.dconst0), .second, .unset]) rfl ?_
      refine XS.aloadN X57.here hx rfl (hb hby o214_161) rfl rfl ?_
      refine XS.iloadN X57.here hx rfl (hb hby o214_162) rfl ?_
      refine XS.aloadN X57.here hx rfl (hb hby o214_163) rfl rfl ?_
      refine XS.iloadN X57.here hx rfl (hb hby o214_164) rfl ?_
      show oW p e below T57 (oF_inv m 165 (oR sx) (oR el) (oi 1) (oi 1) (oR m1) (od ux) .second (oi 2) (od FP.dconst0) .second .unset [(.int 1), (.ref el), (.int 1), (.ref el)]) _
      refine own_ldA X57 hx hZ e57 f50_6 ⟨by decide, by decide⟩ (v := (.ref m1)) rfl (g := (oF_inv m 165 (oR sx) (oR el) (oi 1) (oi 1) (oR m1) (od ux) .second (oi 2) (od FP.dconst0) .second .unset [(.int 1), (.ref el), (.int 1), (.ref el)])) rfl rfl (hb hby o214_165) _ ?_
      exact k) ?_
    obtain ⟨cl58, Ar58, q58, S58, N58, H58, G58⟩ := id (f50_6)
    have hi58 : ¬ ((1 : Int32) < 0 ∨ cl58.slots.size ≤ ((1 : Int32)).toNatClampNeg) := inb_of S58 ⟨by decide, by decide⟩
    obtain ⟨T59, h59, X59, e59, W59, st59⟩ := stR X57 hx hZ e57 Ar58 (j := (1 : Int32)) hi58 rfl (Sto.ofVA Ar58 q58 Oel (Ins.self (Gp16.keep K50))) (g := (oF_inv m 166 (oR sx) (oR el) (oi 1) (oi 1) (oR m1) (od ux) .second (oi 2) (od FP.dconst0) .second .unset [(.ref m1), (.int 1), (.ref el)])) rfl rfl (hb hby o214_166)
    refine own_go st59 ?_
    have V59 : Arv Z h59 el kel (.array .double) (2 : Int32) [(.ref m0), (.ref m1)] .null := Arv.set Ar58 q58 S58 N58 H58 G58 rfl W59 1 rfl (Nat.le_of_ble_eq_true rfl)
    have f59_6 : Arv Z h59 el kel (.array .double) (2 : Int32) [(.ref m0), (.ref m1)] .null := V59
    have f59_10 : Arv Z h59 i0 ki0 .double (2 : Int32) [(.double 0), (.double 0)] (.double 0) := f50_10.other W59 (od_i0_el)
    have f59_11 : Arv Z h59 i1 ki1 .double (2 : Int32) [(.double 0), (.double 0)] (.double 0) := f50_11.other W59 (od_i1_el)
    have f59_13 : Arv Z h59 vl kvl .double (2 : Int32) [(.double 0), (.double 0)] (.double 0) := f50_13.other W59 (od_vl_el)
    have f59_14 : Arv Z h59 m1 km1 .double (4 : Int32) [(.double FP.dconst0), (.double uy), (.double FP.dconst0), (.double FP.dconst1)] (.double 0) := f50_14.other W59 (od_el_m1.symm)
    have f59_15 : Arv Z h59 m0 km0 .double (4 : Int32) [(.double 4607182418800017408), (.double 0), (.double vx), (.double 0)] (.double 0) := V50.other W59 (od_el_m0.symm)
    have N59 := Fr.snoc X59 N50 g_el
    have Z59 : n0 ≤ h59.size := Nat.le_trans Z50 (Keep.of_wr W59).1
    have K59 : Keep h0 h59 [el, m0, m1, i0, i1, vl] := K50.wr W59 (Or.inl (List.mem_of_getElem? (i := 0) rfl))
    refine own_go (A := oW p e below T59 (oF_inv m 171 (oR sx) (oR el) (oi 1) (oi 1) (oR m1) (od ux) .second (oi 2) (od FP.dconst0) .second .unset [(.ref m1), (.int 1), (.ref el)])) (fun t k => by
      refine XS.aloadN X59.here hx rfl (hb hby o214_167) rfl rfl ?_
      refine XS.iloadN X59.here hx rfl (hb hby o214_168) rfl ?_
      refine XS.aload X59.here hx rfl (hb hby o214_169) rfl rfl ?_
      exact k) ?_
    obtain ⟨cl60, Ar60, q60, S60, N60, H60, G60⟩ := id (f59_6)
    have hi60 : ¬ ((1 : Int32) < 0 ∨ cl60.slots.size ≤ ((1 : Int32)).toNatClampNeg) := inb_of S60 ⟨by decide, by decide⟩
    obtain ⟨T61, h61, X61, e61, W61, st61⟩ := stR X59 hx hZ e59 Ar60 (j := (1 : Int32)) hi60 rfl (Sto.ofVA Ar60 q60 Oel (Ins.self (Gp16.keep K59))) (g := (oF_inv m 171 (oR sx) (oR el) (oi 1) (oi 1) (oR m1) (od ux) .second (oi 2) (od FP.dconst0) .second .unset [(.ref m1), (.int 1), (.ref el)])) rfl rfl (hb hby o214_171)
    refine own_go st61 ?_
    have V61 : Arv Z h61 el kel (.array .double) (2 : Int32) [(.ref m0), (.ref m1)] .null := Arv.set Ar60 q60 S60 N60 H60 G60 rfl W61 1 rfl (Nat.le_of_ble_eq_true rfl)
    have f61_6 : Arv Z h61 el kel (.array .double) (2 : Int32) [(.ref m0), (.ref m1)] .null := V61
    have f61_10 : Arv Z h61 i0 ki0 .double (2 : Int32) [(.double 0), (.double 0)] (.double 0) := f59_10.other W61 (od_i0_el)
    have f61_11 : Arv Z h61 i1 ki1 .double (2 : Int32) [(.double 0), (.double 0)] (.double 0) := f59_11.other W61 (od_i1_el)
    have f61_13 : Arv Z h61 vl kvl .double (2 : Int32) [(.double 0), (.double 0)] (.double 0) := f59_13.other W61 (od_vl_el)
    have f61_14 : Arv Z h61 m1 km1 .double (4 : Int32) [(.double FP.dconst0), (.double uy), (.double FP.dconst0), (.double FP.dconst1)] (.double 0) := f59_14.other W61 (od_el_m1.symm)
    have f61_15 : Arv Z h61 m0 km0 .double (4 : Int32) [(.double 4607182418800017408), (.double 0), (.double vx), (.double 0)] (.double 0) := f59_15.other W61 (od_el_m0.symm)
    have N61 := Fr.snoc X61 N59 g_el
    have Z61 : n0 ≤ h61.size := Nat.le_trans Z59 (Keep.of_wr W61).1
    have K61 : Keep h0 h61 [el, m0, m1, i0, i1, vl] := K59.wr W61 (Or.inl (List.mem_of_getElem? (i := 0) rfl))
    refine own_go (A := oW p e below T61 (oF_inv m 186 (oR sx) (oR el) (oi 1) (oi 1) (oR m1) (od uy) .second (oi 0) (od FP.dconst0) .second .unset [(.ref sx), (.int 2), (.int 0)])) (fun t k => by
      refine XS.aloadN X61.here hx rfl (hb hby o214_172) rfl rfl ?_
      refine XS.iloadN X61.here hx rfl (hb hby o214_173) rfl ?_
      show oW p e below T61 (oF_inv m 174 (oR sx) (oR el) (oi 1) (oi 1) (oR m1) (od ux) .second (oi 2) (od FP.dconst0) .second .unset [(.int 1), (.ref el)]) _
      refine own_ldA X61 hx hZ e61 f61_6 ⟨by decide, by decide⟩ (v := (.ref m1)) rfl (g := (oF_inv m 174 (oR sx) (oR el) (oi 1) (oi 1) (oR m1) (od ux) .second (oi 2) (od FP.dconst0) .second .unset [(.int 1), (.ref el)])) rfl rfl (hb hby o214_174) _ ?_
      refine XS.iloadN X61.here hx rfl (hb hby o214_175) rfl ?_
      refine own_ldD X61 hx hZ e61 f61_14 ⟨by decide, by decide⟩ (v := (.double uy)) rfl (g := (oF_inv m 176 (oR sx) (oR el) (oi 1) (oi 1) (oR m1) (od ux) .second (oi 2) (od FP.dconst0) .second .unset [(.int 1), (.ref m1)])) rfl rfl (hb hby o214_176) _ ?_
      refine XS.dstore X61.here hx rfl (hb hby o214_177) rfl (l' := #[(oR sx), (oR el), (oi 1), (oi 1), (oR m1), (od uy), .second, (oi 2), (od FP.dconst0), .second, .unset]) rfl ?_
      refine XS.iconst X61.here hx rfl (hb hby o214_179) ?_
      refine XS.istore X61.here hx rfl (hb hby o214_180) rfl (l' := #[(oR sx), (oR el), (oi 1), (oi 1), (oR m1), (od uy), .second, (oi 0), (od FP.dconst0), .second, .unset]) rfl ?_
      show oW p e below T61 (oF_inv m 182 (oR sx) (oR el) (oi 1) (oi 1) (oR m1) (od uy) .second (oi 0) (od FP.dconst0) .second .unset []) _
      refine XS.iload X61.here hx rfl (hb hby o214_182) rfl ?_
      refine XS.iconst X61.here hx rfl (hb hby o214_184) ?_
      refine XS.aloadN X61.here hx rfl (hb hby o214_185) rfl rfl ?_
      exact k) ?_
    obtain ⟨T62, X62, e62, st62⟩ := getF X61 hx hZ hown (host := "") (Or.inl ow25) Via.refl e61 (Gp1.keep K61 nn_sx) (g := (oF_inv m 186 (oR sx) (oR el) (oi 1) (oi 1) (oR m1) (od uy) .second (oi 0) (od FP.dconst0) .second .unset [(.ref sx), (.int 2), (.int 0)])) rfl rfl (hb hby o214_186)
    refine own_go st62 ?_
    refine own_go (A := oW p e below T62 (oF_inv m 203 (oR sx) (oR el) (oi 1) (oi 1) (oR m1) (od uy) .second (oi 0) (od FP.dconst0) .second .unset [(.double 0), (.int 0), (.ref m1)])) (fun t k => by
      refine XS.imul X62.here hx rfl (hb hby o214_189) rfl ?_
      refine XS.icmpNo X62.here hx rfl (hb hby o214_190) rfl (tlt (by decide : (0 : Int32) < (4 : Int32))).2.1 ?_
      refine XS.aloadN X62.here hx rfl (hb hby o214_193) rfl rfl ?_
      show oW p e below T62 (oF_inv m 194 (oR sx) (oR el) (oi 1) (oi 1) (oR m1) (od uy) .second (oi 0) (od FP.dconst0) .second .unset [(.ref el)]) _
      refine XS.iloadN X62.here hx rfl (hb hby o214_194) rfl ?_
      refine own_ldA X62 hx hZ e62 f61_6 ⟨by decide, by decide⟩ (v := (.ref m1)) rfl (g := (oF_inv m 195 (oR sx) (oR el) (oi 1) (oi 1) (oR m1) (od uy) .second (oi 0) (od FP.dconst0) .second .unset [(.int 1), (.ref el)])) rfl rfl (hb hby o214_195) _ ?_
      refine XS.iload X62.here hx rfl (hb hby o214_196) rfl ?_
      refine XT.dup2 X62.here hx rfl (hb hby o214_198) rfl rfl rfl ?_
      refine own_ldD X62 hx hZ e62 f61_14 ⟨by decide, by decide⟩ (v := (.double FP.dconst0)) rfl (g := (oF_inv m 199 (oR sx) (oR el) (oi 1) (oi 1) (oR m1) (od uy) .second (oi 0) (od FP.dconst0) .second .unset [(.int 0), (.ref m1), (.int 0), (.ref m1)])) rfl rfl (hb hby o214_199) _ ?_
      refine XS.dload X62.here hx rfl (hb hby o214_200) rfl ?_
      show oW p e below T62 (oF_inv m 202 (oR sx) (oR el) (oi 1) (oi 1) (oR m1) (od uy) .second (oi 0) (od FP.dconst0) .second .unset [(.double uy), (.double FP.dconst0), (.int 0), (.ref m1)]) _
      refine XS.ddivS X62.here hx rfl (hb hby o214_202) rfl (own_f10n hPx hPy) (own_f10 hPx hPy) ?_
      exact k) ?_
    obtain ⟨T63, h63, X63, e63, W63, U63, st63⟩ := own_stD X62 hx hZ e62 f61_14 (j := (0 : Int32)) ⟨by decide, by decide⟩ 0 rfl (Nat.le_of_ble_eq_true rfl) (g := (oF_inv m 203 (oR sx) (oR el) (oi 1) (oi 1) (oR m1) (od uy) .second (oi 0) (od FP.dconst0) .second .unset [(.double 0), (.int 0), (.ref m1)])) rfl rfl (hb hby o214_203)
    refine own_go st63 ?_
    have V63 : Arv Z h63 m1 km1 .double (4 : Int32) [(.double 0), (.double uy), (.double FP.dconst0), (.double FP.dconst1)] (.double 0) := U63
    have f63_6 : Arv Z h63 el kel (.array .double) (2 : Int32) [(.ref m0), (.ref m1)] .null := f61_6.other W63 (od_el_m1)
    have f63_10 : Arv Z h63 i0 ki0 .double (2 : Int32) [(.double 0), (.double 0)] (.double 0) := f61_10.other W63 (od_i0_m1)
    have f63_11 : Arv Z h63 i1 ki1 .double (2 : Int32) [(.double 0), (.double 0)] (.double 0) := f61_11.other W63 (od_i1_m1)
    have f63_13 : Arv Z h63 vl kvl .double (2 : Int32) [(.double 0), (.double 0)] (.double 0) := f61_13.other W63 (od_vl_m1)
    have f63_15 : Arv Z h63 m0 km0 .double (4 : Int32) [(.double 4607182418800017408), (.double 0), (.double vx), (.double 0)] (.double 0) := f61_15.other W63 (od_m0_m1)
    have N63 := Fr.snoc X63 N61 g_m1
    have Z63 : n0 ≤ h63.size := Nat.le_trans Z61 (Keep.of_wr W63).1
    have K63 : Keep h0 h63 [el, m0, m1, i0, i1, vl] := K61.wr W63 (Or.inl (List.mem_of_getElem? (i := 2) rfl))
    refine own_go (A := oW p e below T63 (oF_inv m 186 (oR sx) (oR el) (oi 1) (oi 1) (oR m1) (od uy) .second (oi 1) (od FP.dconst0) .second .unset [(.ref sx), (.int 2), (.int 1)])) (fun t k => by
      refine XS.iinc X63.here hx rfl (hb hby o214_204) rfl (l' := #[(oR sx), (oR el), (oi 1), (oi 1), (oR m1), (od uy), .second, (oi 1), (od FP.dconst0), .second, .unset]) rfl ?_
      refine XS.goto X63.here hx rfl (pc0 := 207) (pc' := 182) rfl (hb hby o214_207) (by decide) (by decide) ?_
      refine XS.iload X63.here hx rfl (hb hby o214_182) rfl ?_
      refine XS.iconst X63.here hx rfl (hb hby o214_184) ?_
      refine XS.aloadN X63.here hx rfl (hb hby o214_185) rfl rfl ?_
      exact k) ?_
    obtain ⟨T64, X64, e64, st64⟩ := getF X63 hx hZ hown (host := "") (Or.inl ow25) Via.refl e63 (Gp1.keep K63 nn_sx) (g := (oF_inv m 186 (oR sx) (oR el) (oi 1) (oi 1) (oR m1) (od uy) .second (oi 1) (od FP.dconst0) .second .unset [(.ref sx), (.int 2), (.int 1)])) rfl rfl (hb hby o214_186)
    refine own_go st64 ?_
    refine own_go (A := oW p e below T64 (oF_inv m 203 (oR sx) (oR el) (oi 1) (oi 1) (oR m1) (od uy) .second (oi 1) (od FP.dconst0) .second .unset [(.double 4607182418800017408), (.int 1), (.ref m1)])) (fun t k => by
      refine XS.imul X64.here hx rfl (hb hby o214_189) rfl ?_
      refine XS.icmpNo X64.here hx rfl (hb hby o214_190) rfl (tlt (by decide : (1 : Int32) < (4 : Int32))).2.1 ?_
      refine XS.aloadN X64.here hx rfl (hb hby o214_193) rfl rfl ?_
      refine XS.iloadN X64.here hx rfl (hb hby o214_194) rfl ?_
      refine own_ldA X64 hx hZ e64 f63_6 ⟨by decide, by decide⟩ (v := (.ref m1)) rfl (g := (oF_inv m 195 (oR sx) (oR el) (oi 1) (oi 1) (oR m1) (od uy) .second (oi 1) (od FP.dconst0) .second .unset [(.int 1), (.ref el)])) rfl rfl (hb hby o214_195) _ ?_
      refine XS.iload X64.here hx rfl (hb hby o214_196) rfl ?_
      show oW p e below T64 (oF_inv m 198 (oR sx) (oR el) (oi 1) (oi 1) (oR m1) (od uy) .second (oi 1) (od FP.dconst0) .second .unset [(.int 1), (.ref m1)]) _
      refine XT.dup2 X64.here hx rfl (hb hby o214_198) rfl rfl rfl ?_
      refine own_ldD X64 hx hZ e64 V63 ⟨by decide, by decide⟩ (v := (.double uy)) rfl (g := (oF_inv m 199 (oR sx) (oR el) (oi 1) (oi 1) (oR m1) (od uy) .second (oi 1) (od FP.dconst0) .second .unset [(.int 1), (.ref m1), (.int 1), (.ref m1)])) rfl rfl (hb hby o214_199) _ ?_
      refine XS.dload X64.here hx rfl (hb hby o214_200) rfl ?_
      refine XS.ddivS X64.here hx rfl (hb hby o214_202) rfl (own_f11n hPx hPy) (own_f11 hPx hPy) ?_
      exact k) ?_
    obtain ⟨T65, h65, X65, e65, W65, U65, st65⟩ := own_stD X64 hx hZ e64 V63 (j := (1 : Int32)) ⟨by decide, by decide⟩ 1 rfl (Nat.le_of_ble_eq_true rfl) (g := (oF_inv m 203 (oR sx) (oR el) (oi 1) (oi 1) (oR m1) (od uy) .second (oi 1) (od FP.dconst0) .second .unset [(.double 4607182418800017408), (.int 1), (.ref m1)])) rfl rfl (hb hby o214_203)
    refine own_go st65 ?_
    have V65 : Arv Z h65 m1 km1 .double (4 : Int32) [(.double 0), (.double 4607182418800017408), (.double FP.dconst0), (.double FP.dconst1)] (.double 0) := U65
    have f65_6 : Arv Z h65 el kel (.array .double) (2 : Int32) [(.ref m0), (.ref m1)] .null := f63_6.other W65 (od_el_m1)
    have f65_10 : Arv Z h65 i0 ki0 .double (2 : Int32) [(.double 0), (.double 0)] (.double 0) := f63_10.other W65 (od_i0_m1)
    have f65_11 : Arv Z h65 i1 ki1 .double (2 : Int32) [(.double 0), (.double 0)] (.double 0) := f63_11.other W65 (od_i1_m1)
    have f65_13 : Arv Z h65 vl kvl .double (2 : Int32) [(.double 0), (.double 0)] (.double 0) := f63_13.other W65 (od_vl_m1)
    have f65_14 : Arv Z h65 m0 km0 .double (4 : Int32) [(.double 4607182418800017408), (.double 0), (.double vx), (.double 0)] (.double 0) := f63_15.other W65 (od_m0_m1)
    have N65 := Fr.snoc X65 N63 g_m1
    have Z65 : n0 ≤ h65.size := Nat.le_trans Z63 (Keep.of_wr W65).1
    have K65 : Keep h0 h65 [el, m0, m1, i0, i1, vl] := K63.wr W65 (Or.inl (List.mem_of_getElem? (i := 2) rfl))
    refine own_go (A := oW p e below T65 (oF_inv m 186 (oR sx) (oR el) (oi 1) (oi 1) (oR m1) (od uy) .second (oi 2) (od FP.dconst0) .second .unset [(.ref sx), (.int 2), (.int 2)])) (fun t k => by
      refine XS.iinc X65.here hx rfl (hb hby o214_204) rfl (l' := #[(oR sx), (oR el), (oi 1), (oi 1), (oR m1), (od uy), .second, (oi 2), (od FP.dconst0), .second, .unset]) rfl ?_
      refine XS.goto X65.here hx rfl (pc0 := 207) (pc' := 182) rfl (hb hby o214_207) (by decide) (by decide) ?_
      show oW p e below T65 (oF_inv m 182 (oR sx) (oR el) (oi 1) (oi 1) (oR m1) (od uy) .second (oi 2) (od FP.dconst0) .second .unset []) _
      refine XS.iload X65.here hx rfl (hb hby o214_182) rfl ?_
      refine XS.iconst X65.here hx rfl (hb hby o214_184) ?_
      refine XS.aloadN X65.here hx rfl (hb hby o214_185) rfl rfl ?_
      exact k) ?_
    obtain ⟨T66, X66, e66, st66⟩ := getF X65 hx hZ hown (host := "") (Or.inl ow25) Via.refl e65 (Gp1.keep K65 nn_sx) (g := (oF_inv m 186 (oR sx) (oR el) (oi 1) (oi 1) (oR m1) (od uy) .second (oi 2) (od FP.dconst0) .second .unset [(.ref sx), (.int 2), (.int 2)])) rfl rfl (hb hby o214_186)
    refine own_go st66 ?_
    refine own_go (A := oW p e below T66 (oF_inv m 203 (oR sx) (oR el) (oi 1) (oi 1) (oR m1) (od uy) .second (oi 2) (od FP.dconst0) .second .unset [(.double 0), (.int 2), (.ref m1)])) (fun t k => by
      refine XS.imul X66.here hx rfl (hb hby o214_189) rfl ?_
      refine XS.icmpNo X66.here hx rfl (hb hby o214_190) rfl (tlt (by decide : (2 : Int32) < (4 : Int32))).2.1 ?_
      refine XS.aloadN X66.here hx rfl (hb hby o214_193) rfl rfl ?_
      show oW p e below T66 (oF_inv m 194 (oR sx) (oR el) (oi 1) (oi 1) (oR m1) (od uy) .second (oi 2) (od FP.dconst0) .second .unset [(.ref el)]) _
      refine XS.iloadN X66.here hx rfl (hb hby o214_194) rfl ?_
      refine own_ldA X66 hx hZ e66 f65_6 ⟨by decide, by decide⟩ (v := (.ref m1)) rfl (g := (oF_inv m 195 (oR sx) (oR el) (oi 1) (oi 1) (oR m1) (od uy) .second (oi 2) (od FP.dconst0) .second .unset [(.int 1), (.ref el)])) rfl rfl (hb hby o214_195) _ ?_
      refine XS.iload X66.here hx rfl (hb hby o214_196) rfl ?_
      refine XT.dup2 X66.here hx rfl (hb hby o214_198) rfl rfl rfl ?_
      refine own_ldD X66 hx hZ e66 V65 ⟨by decide, by decide⟩ (v := (.double FP.dconst0)) rfl (g := (oF_inv m 199 (oR sx) (oR el) (oi 1) (oi 1) (oR m1) (od uy) .second (oi 2) (od FP.dconst0) .second .unset [(.int 2), (.ref m1), (.int 2), (.ref m1)])) rfl rfl (hb hby o214_199) _ ?_
      refine XS.dload X66.here hx rfl (hb hby o214_200) rfl ?_
      show oW p e below T66 (oF_inv m 202 (oR sx) (oR el) (oi 1) (oi 1) (oR m1) (od uy) .second (oi 2) (od FP.dconst0) .second .unset [(.double uy), (.double FP.dconst0), (.int 2), (.ref m1)]) _
      refine XS.ddivS X66.here hx rfl (hb hby o214_202) rfl (own_f10n hPx hPy) (own_f10 hPx hPy) ?_
      exact k) ?_
    obtain ⟨T67, h67, X67, e67, W67, U67, st67⟩ := own_stD X66 hx hZ e66 V65 (j := (2 : Int32)) ⟨by decide, by decide⟩ 2 rfl (Nat.le_of_ble_eq_true rfl) (g := (oF_inv m 203 (oR sx) (oR el) (oi 1) (oi 1) (oR m1) (od uy) .second (oi 2) (od FP.dconst0) .second .unset [(.double 0), (.int 2), (.ref m1)])) rfl rfl (hb hby o214_203)
    refine own_go st67 ?_
    have V67 : Arv Z h67 m1 km1 .double (4 : Int32) [(.double 0), (.double 4607182418800017408), (.double 0), (.double FP.dconst1)] (.double 0) := U67
    have f67_6 : Arv Z h67 el kel (.array .double) (2 : Int32) [(.ref m0), (.ref m1)] .null := f65_6.other W67 (od_el_m1)
    have f67_10 : Arv Z h67 i0 ki0 .double (2 : Int32) [(.double 0), (.double 0)] (.double 0) := f65_10.other W67 (od_i0_m1)
    have f67_11 : Arv Z h67 i1 ki1 .double (2 : Int32) [(.double 0), (.double 0)] (.double 0) := f65_11.other W67 (od_i1_m1)
    have f67_13 : Arv Z h67 vl kvl .double (2 : Int32) [(.double 0), (.double 0)] (.double 0) := f65_13.other W67 (od_vl_m1)
    have f67_14 : Arv Z h67 m0 km0 .double (4 : Int32) [(.double 4607182418800017408), (.double 0), (.double vx), (.double 0)] (.double 0) := f65_14.other W67 (od_m0_m1)
    have N67 := Fr.snoc X67 N65 g_m1
    have Z67 : n0 ≤ h67.size := Nat.le_trans Z65 (Keep.of_wr W67).1
    have K67 : Keep h0 h67 [el, m0, m1, i0, i1, vl] := K65.wr W67 (Or.inl (List.mem_of_getElem? (i := 2) rfl))
    refine own_go (A := oW p e below T67 (oF_inv m 186 (oR sx) (oR el) (oi 1) (oi 1) (oR m1) (od uy) .second (oi 3) (od FP.dconst0) .second .unset [(.ref sx), (.int 2), (.int 3)])) (fun t k => by
      refine XS.iinc X67.here hx rfl (hb hby o214_204) rfl (l' := #[(oR sx), (oR el), (oi 1), (oi 1), (oR m1), (od uy), .second, (oi 3), (od FP.dconst0), .second, .unset]) rfl ?_
      refine XS.goto X67.here hx rfl (pc0 := 207) (pc' := 182) rfl (hb hby o214_207) (by decide) (by decide) ?_
      refine XS.iload X67.here hx rfl (hb hby o214_182) rfl ?_
      refine XS.iconst X67.here hx rfl (hb hby o214_184) ?_
      refine XS.aloadN X67.here hx rfl (hb hby o214_185) rfl rfl ?_
      exact k) ?_
    obtain ⟨T68, X68, e68, st68⟩ := getF X67 hx hZ hown (host := "") (Or.inl ow25) Via.refl e67 (Gp1.keep K67 nn_sx) (g := (oF_inv m 186 (oR sx) (oR el) (oi 1) (oi 1) (oR m1) (od uy) .second (oi 3) (od FP.dconst0) .second .unset [(.ref sx), (.int 2), (.int 3)])) rfl rfl (hb hby o214_186)
    refine own_go st68 ?_
    refine own_go (A := oW p e below T68 (oF_inv m 203 (oR sx) (oR el) (oi 1) (oi 1) (oR m1) (od uy) .second (oi 3) (od FP.dconst0) .second .unset [(.double vy), (.int 3), (.ref m1)])) (fun t k => by
      refine XS.imul X68.here hx rfl (hb hby o214_189) rfl ?_
      refine XS.icmpNo X68.here hx rfl (hb hby o214_190) rfl (tlt (by decide : (3 : Int32) < (4 : Int32))).2.1 ?_
      refine XS.aloadN X68.here hx rfl (hb hby o214_193) rfl rfl ?_
      refine XS.iloadN X68.here hx rfl (hb hby o214_194) rfl ?_
      refine own_ldA X68 hx hZ e68 f67_6 ⟨by decide, by decide⟩ (v := (.ref m1)) rfl (g := (oF_inv m 195 (oR sx) (oR el) (oi 1) (oi 1) (oR m1) (od uy) .second (oi 3) (od FP.dconst0) .second .unset [(.int 1), (.ref el)])) rfl rfl (hb hby o214_195) _ ?_
      refine XS.iload X68.here hx rfl (hb hby o214_196) rfl ?_
      show oW p e below T68 (oF_inv m 198 (oR sx) (oR el) (oi 1) (oi 1) (oR m1) (od uy) .second (oi 3) (od FP.dconst0) .second .unset [(.int 3), (.ref m1)]) _
      refine XT.dup2 X68.here hx rfl (hb hby o214_198) rfl rfl rfl ?_
      refine own_ldD X68 hx hZ e68 V67 ⟨by decide, by decide⟩ (v := (.double FP.dconst1)) rfl (g := (oF_inv m 199 (oR sx) (oR el) (oi 1) (oi 1) (oR m1) (od uy) .second (oi 3) (od FP.dconst0) .second .unset [(.int 3), (.ref m1), (.int 3), (.ref m1)])) rfl rfl (hb hby o214_199) _ ?_
      refine XS.dload X68.here hx rfl (hb hby o214_200) rfl ?_
      refine XS.ddivS X68.here hx rfl (hb hby o214_202) rfl (own_f12n hPx hPy) (own_f12 hPx hPy) ?_
      exact k) ?_
    obtain ⟨T69, h69, X69, e69, W69, U69, st69⟩ := own_stD X68 hx hZ e68 V67 (j := (3 : Int32)) ⟨by decide, by decide⟩ 3 rfl (Nat.le_of_ble_eq_true rfl) (g := (oF_inv m 203 (oR sx) (oR el) (oi 1) (oi 1) (oR m1) (od uy) .second (oi 3) (od FP.dconst0) .second .unset [(.double vy), (.int 3), (.ref m1)])) rfl rfl (hb hby o214_203)
    refine own_go st69 ?_
    have V69 : Arv Z h69 m1 km1 .double (4 : Int32) [(.double 0), (.double 4607182418800017408), (.double 0), (.double vy)] (.double 0) := U69
    have f69_6 : Arv Z h69 el kel (.array .double) (2 : Int32) [(.ref m0), (.ref m1)] .null := f67_6.other W69 (od_el_m1)
    have f69_10 : Arv Z h69 i0 ki0 .double (2 : Int32) [(.double 0), (.double 0)] (.double 0) := f67_10.other W69 (od_i0_m1)
    have f69_11 : Arv Z h69 i1 ki1 .double (2 : Int32) [(.double 0), (.double 0)] (.double 0) := f67_11.other W69 (od_i1_m1)
    have f69_13 : Arv Z h69 vl kvl .double (2 : Int32) [(.double 0), (.double 0)] (.double 0) := f67_13.other W69 (od_vl_m1)
    have f69_14 : Arv Z h69 m0 km0 .double (4 : Int32) [(.double 4607182418800017408), (.double 0), (.double vx), (.double 0)] (.double 0) := f67_14.other W69 (od_m0_m1)
    have N69 := Fr.snoc X69 N67 g_m1
    have Z69 : n0 ≤ h69.size := Nat.le_trans Z67 (Keep.of_wr W69).1
    have K69 : Keep h0 h69 [el, m0, m1, i0, i1, vl] := K67.wr W69 (Or.inl (List.mem_of_getElem? (i := 2) rfl))
    refine own_go (A := oW p e below T69 (oF_inv m 186 (oR sx) (oR el) (oi 1) (oi 1) (oR m1) (od uy) .second (oi 4) (od FP.dconst0) .second .unset [(.ref sx), (.int 2), (.int 4)])) (fun t k => by
      refine XS.iinc X69.here hx rfl (hb hby o214_204) rfl (l' := #[(oR sx), (oR el), (oi 1), (oi 1), (oR m1), (od uy), .second, (oi 4), (od FP.dconst0), .second, .unset]) rfl ?_
      refine XS.goto X69.here hx rfl (pc0 := 207) (pc' := 182) rfl (hb hby o214_207) (by decide) (by decide) ?_
      show oW p e below T69 (oF_inv m 182 (oR sx) (oR el) (oi 1) (oi 1) (oR m1) (od uy) .second (oi 4) (od FP.dconst0) .second .unset []) _
      refine XS.iload X69.here hx rfl (hb hby o214_182) rfl ?_
      refine XS.iconst X69.here hx rfl (hb hby o214_184) ?_
      refine XS.aloadN X69.here hx rfl (hb hby o214_185) rfl rfl ?_
      exact k) ?_
    obtain ⟨T70, X70, e70, st70⟩ := getF X69 hx hZ hown (host := "") (Or.inl ow25) Via.refl e69 (Gp1.keep K69 nn_sx) (g := (oF_inv m 186 (oR sx) (oR el) (oi 1) (oi 1) (oR m1) (od uy) .second (oi 4) (od FP.dconst0) .second .unset [(.ref sx), (.int 2), (.int 4)])) rfl rfl (hb hby o214_186)
    refine own_go st70 ?_
    refine own_go (A := oW p e below T70 (oF_inv m 216 (oR sx) (oR el) (oi 1) (oi 1) (oR m1) (od uy) .second (oi 0) (od FP.dconst0) .second .unset [(.ref sx), (.int 0)])) (fun t k => by
      refine XS.imul X70.here hx rfl (hb hby o214_189) rfl ?_
      refine XS.icmpYes X70.here hx rfl (pc0 := 190) (pc' := 210) rfl (hb hby o214_190) rfl (flt (by decide : ¬ ((4 : Int32) < (4 : Int32)))).2.1 (by decide) (by decide) ?_
      refine XS.iconst X70.here hx rfl (hb hby o214_210) ?_
      show oW p e below T70 (oF_inv m 211 (oR sx) (oR el) (oi 1) (oi 1) (oR m1) (od uy) .second (oi 4) (od FP.dconst0) .second .unset [(.int 0)]) _
      refine XS.istore X70.here hx rfl (hb hby o214_211) rfl (l' := #[(oR sx), (oR el), (oi 1), (oi 1), (oR m1), (od uy), .second, (oi 0), (od FP.dconst0), .second, .unset]) rfl ?_
      refine XS.iload X70.here hx rfl (hb hby o214_213) rfl ?_
      refine XS.aloadN X70.here hx rfl (hb hby o214_215) rfl rfl ?_
      exact k) ?_
    obtain ⟨T71, X71, e71, st71⟩ := getF X70 hx hZ hown (host := "") (Or.inl ow25) Via.refl e70 (Gp1.keep K69 nn_sx) (g := (oF_inv m 216 (oR sx) (oR el) (oi 1) (oi 1) (oR m1) (od uy) .second (oi 0) (od FP.dconst0) .second .unset [(.ref sx), (.int 0)])) rfl rfl (hb hby o214_216)
    refine own_go st71 ?_
    refine own_go (A := oW p e below T71 (oF_inv m 216 (oR sx) (oR el) (oi 1) (oi 1) (oR m1) (od uy) .second (oi 1) (od 0) .second .unset [(.ref sx), (.int 1)])) (fun t k => by
      refine XS.icmpNo X71.here hx rfl (hb hby o214_219) rfl (tlt (by decide : (0 : Int32) < (2 : Int32))).2.1 ?_
      refine XS.aloadN X71.here hx rfl (hb hby o214_222) rfl rfl ?_
      refine XS.iload X71.here hx rfl (hb hby o214_223) rfl ?_
      show oW p e below T71 (oF_inv m 225 (oR sx) (oR el) (oi 1) (oi 1) (oR m1) (od uy) .second (oi 0) (od FP.dconst0) .second .unset [(.int 0), (.ref el)]) _
      refine own_ldA X71 hx hZ e71 f69_6 ⟨by decide, by decide⟩ (v := (.ref m0)) rfl (g := (oF_inv m 225 (oR sx) (oR el) (oi 1) (oi 1) (oR m1) (od uy) .second (oi 0) (od FP.dconst0) .second .unset [(.int 0), (.ref el)])) rfl rfl (hb hby o214_225) _ ?_
      refine XS.iloadN X71.here hx rfl (hb hby o214_226) rfl ?_
      refine own_ldD X71 hx hZ e71 f69_14 ⟨by decide, by decide⟩ (v := (.double 0)) rfl (g := (oF_inv m 227 (oR sx) (oR el) (oi 1) (oi 1) (oR m1) (od uy) .second (oi 0) (od FP.dconst0) .second .unset [(.int 1), (.ref m0)])) rfl rfl (hb hby o214_227) _ ?_
      refine XS.dstore X71.here hx rfl (hb hby o214_228) rfl (l' := #[(oR sx), (oR el), (oi 1), (oi 1), (oR m1), (od uy), .second, (oi 0), (od 0), .second, .unset]) rfl ?_
      refine XS.iload X71.here hx rfl (hb hby o214_230) rfl ?_
      refine XS.iloadN X71.here hx rfl (hb hby o214_232) rfl ?_
      show oW p e below T71 (oF_inv m 233 (oR sx) (oR el) (oi 1) (oi 1) (oR m1) (od uy) .second (oi 0) (od 0) .second .unset [(.int 1), (.int 0)]) _
      refine XS.icmpNo X71.here hx rfl (hb hby o214_233) rfl (feq (by decide : ¬ ((0 : Int32) = (1 : Int32)))).1 ?_
      refine XS.dload X71.here hx rfl (hb hby o214_236) rfl ?_
      refine XS.dconst0 X71.here hx rfl (hb hby o214_238) rfl ?_
      refine XS.dcmpS X71.here hx rfl (hb hby o214_239) rfl (own_f13 hPx hPy) ?_
      refine XS.ifYes X71.here hx rfl (pc0 := 240) (pc' := 282) rfl (hb hby o214_240) rfl ((if0 _ _).trans (teq (by decide : (0 : Int32) = (0 : Int32))).1) (by decide) (by decide) ?_
      refine XS.iinc X71.here hx rfl (hb hby o214_282) rfl (l' := #[(oR sx), (oR el), (oi 1), (oi 1), (oR m1), (od uy), .second, (oi 1), (od 0), .second, .unset]) rfl ?_
      show oW p e below T71 (oF_inv m 285 (oR sx) (oR el) (oi 1) (oi 1) (oR m1) (od uy) .second (oi 1) (od 0) .second .unset []) _
      refine XS.goto X71.here hx rfl (pc0 := 285) (pc' := 213) rfl (hb hby o214_285) (by decide) (by decide) ?_
      refine XS.iload X71.here hx rfl (hb hby o214_213) rfl ?_
      refine XS.aloadN X71.here hx rfl (hb hby o214_215) rfl rfl ?_
      exact k) ?_
    obtain ⟨T72, X72, e72, st72⟩ := getF X71 hx hZ hown (host := "") (Or.inl ow25) Via.refl e71 (Gp1.keep K69 nn_sx) (g := (oF_inv m 216 (oR sx) (oR el) (oi 1) (oi 1) (oR m1) (od uy) .second (oi 1) (od 0) .second .unset [(.ref sx), (.int 1)])) rfl rfl (hb hby o214_216)
    refine own_go st72 ?_
    refine own_go (A := oW p e below T72 (oF_inv m 216 (oR sx) (oR el) (oi 1) (oi 1) (oR m1) (od uy) .second (oi 2) (od 4607182418800017408) .second .unset [(.ref sx), (.int 2)])) (fun t k => by
      refine XS.icmpNo X72.here hx rfl (hb hby o214_219) rfl (tlt (by decide : (1 : Int32) < (2 : Int32))).2.1 ?_
      refine XS.aloadN X72.here hx rfl (hb hby o214_222) rfl rfl ?_
      refine XS.iload X72.here hx rfl (hb hby o214_223) rfl ?_
      show oW p e below T72 (oF_inv m 225 (oR sx) (oR el) (oi 1) (oi 1) (oR m1) (od uy) .second (oi 1) (od 0) .second .unset [(.int 1), (.ref el)]) _
      refine own_ldA X72 hx hZ e72 f69_6 ⟨by decide, by decide⟩ (v := (.ref m1)) rfl (g := (oF_inv m 225 (oR sx) (oR el) (oi 1) (oi 1) (oR m1) (od uy) .second (oi 1) (od 0) .second .unset [(.int 1), (.ref el)])) rfl rfl (hb hby o214_225) _ ?_
      refine XS.iloadN X72.here hx rfl (hb hby o214_226) rfl ?_
      refine own_ldD X72 hx hZ e72 V69 ⟨by decide, by decide⟩ (v := (.double 4607182418800017408)) rfl (g := (oF_inv m 227 (oR sx) (oR el) (oi 1) (oi 1) (oR m1) (od uy) .second (oi 1) (od 0) .second .unset [(.int 1), (.ref m1)])) rfl rfl (hb hby o214_227) _ ?_
      refine XS.dstore X72.here hx rfl (hb hby o214_228) rfl (l' := #[(oR sx), (oR el), (oi 1), (oi 1), (oR m1), (od uy), .second, (oi 1), (od 4607182418800017408), .second, .unset]) rfl ?_
      refine XS.iload X72.here hx rfl (hb hby o214_230) rfl ?_
      refine XS.iloadN X72.here hx rfl (hb hby o214_232) rfl ?_
      show oW p e below T72 (oF_inv m 233 (oR sx) (oR el) (oi 1) (oi 1) (oR m1) (od uy) .second (oi 1) (od 4607182418800017408) .second .unset [(.int 1), (.int 1)]) _
      refine XS.icmpYes X72.here hx rfl (pc0 := 233) (pc' := 282) rfl (hb hby o214_233) rfl (teq (by decide : (1 : Int32) = (1 : Int32))).1 (by decide) (by decide) ?_
      refine XS.iinc X72.here hx rfl (hb hby o214_282) rfl (l' := #[(oR sx), (oR el), (oi 1), (oi 1), (oR m1), (od uy), .second, (oi 2), (od 4607182418800017408), .second, .unset]) rfl ?_
      refine XS.goto X72.here hx rfl (pc0 := 285) (pc' := 213) rfl (hb hby o214_285) (by decide) (by decide) ?_
      refine XS.iload X72.here hx rfl (hb hby o214_213) rfl ?_
      refine XS.aloadN X72.here hx rfl (hb hby o214_215) rfl rfl ?_
      exact k) ?_
    obtain ⟨T73, X73, e73, st73⟩ := getF X72 hx hZ hown (host := "") (Or.inl ow25) Via.refl e72 (Gp1.keep K69 nn_sx) (g := (oF_inv m 216 (oR sx) (oR el) (oi 1) (oi 1) (oR m1) (od uy) .second (oi 2) (od 4607182418800017408) .second .unset [(.ref sx), (.int 2)])) rfl rfl (hb hby o214_216)
    refine own_go st73 ?_
    refine own_go (A := oW p e below T73 (oF_inv m 87 (oR sx) (oR el) (oi 2) (oi 1) (oR m1) (od uy) .second (oi 2) (od 4607182418800017408) .second .unset [(.ref sx), (.int 2)])) (fun t k => by
      refine XS.icmpYes X73.here hx rfl (pc0 := 219) (pc' := 288) rfl (hb hby o214_219) rfl (flt (by decide : ¬ ((2 : Int32) < (2 : Int32)))).2.1 (by decide) (by decide) ?_
      show oW p e below T73 (oF_inv m 288 (oR sx) (oR el) (oi 1) (oi 1) (oR m1) (od uy) .second (oi 2) (od 4607182418800017408) .second .unset []) _
      refine XS.iinc X73.here hx rfl (hb hby o214_288) rfl (l' := #[(oR sx), (oR el), (oi 2), (oi 1), (oR m1), (od uy), .second, (oi 2), (od 4607182418800017408), .second, .unset]) rfl ?_
      refine XS.goto X73.here hx rfl (pc0 := 291) (pc' := 85) rfl (hb hby o214_291) (by decide) (by decide) ?_
      refine XS.iloadN X73.here hx rfl (hb hby o214_85) rfl ?_
      refine XS.aloadN X73.here hx rfl (hb hby o214_86) rfl rfl ?_
      exact k) ?_
    obtain ⟨T74, X74, e74, st74⟩ := getF X73 hx hZ hown (host := "") (Or.inl ow25) Via.refl e73 (Gp1.keep K69 nn_sx) (g := (oF_inv m 87 (oR sx) (oR el) (oi 2) (oi 1) (oR m1) (od uy) .second (oi 2) (od 4607182418800017408) .second .unset [(.ref sx), (.int 2)])) rfl rfl (hb hby o214_87)
    refine own_go st74 ?_
    refine own_go (A := oW p e below T74 (oF_inv m 298 (oR sx) (oR el) (oi 0) (oi 1) (oR m1) (od uy) .second (oi 2) (od 4607182418800017408) .second .unset [(.ref sx), (.int 0)])) (fun t k => by
      refine XS.icmpYes X74.here hx rfl (pc0 := 90) (pc' := 294) rfl (hb hby o214_90) rfl (flt (by decide : ¬ ((2 : Int32) < (2 : Int32)))).2.1 (by decide) (by decide) ?_
      refine XS.iconst X74.here hx rfl (hb hby o214_294) ?_
      show oW p e below T74 (oF_inv m 295 (oR sx) (oR el) (oi 2) (oi 1) (oR m1) (od uy) .second (oi 2) (od 4607182418800017408) .second .unset [(.int 0)]) _
      refine XS.istoreN X74.here hx rfl (hb hby o214_295) rfl (l' := #[(oR sx), (oR el), (oi 0), (oi 1), (oR m1), (od uy), .second, (oi 2), (od 4607182418800017408), .second, .unset]) rfl ?_
      refine XS.iloadN X74.here hx rfl (hb hby o214_296) rfl ?_
      refine XS.aloadN X74.here hx rfl (hb hby o214_297) rfl rfl ?_
      exact k) ?_
    obtain ⟨T75, X75, e75, st75⟩ := getF X74 hx hZ hown (host := "") (Or.inl ow25) Via.refl e74 (Gp1.keep K69 nn_sx) (g := (oF_inv m 298 (oR sx) (oR el) (oi 0) (oi 1) (oR m1) (od uy) .second (oi 2) (od 4607182418800017408) .second .unset [(.ref sx), (.int 0)])) rfl rfl (hb hby o214_298)
    refine own_go st75 ?_
    refine own_go (A := oW p e below T75 (oF_inv m 308 (oR sx) (oR el) (oi 0) (oi 1) (oR m1) (od uy) .second (oi 2) (od 4607182418800017408) .second .unset [(.ref sx), (.ref m0)])) (fun t k => by
      refine XS.icmpNo X75.here hx rfl (hb hby o214_301) rfl (tlt (by decide : (0 : Int32) < (2 : Int32))).2.1 ?_
      refine XS.aloadN X75.here hx rfl (hb hby o214_304) rfl rfl ?_
      refine XS.iloadN X75.here hx rfl (hb hby o214_305) rfl ?_
      show oW p e below T75 (oF_inv m 306 (oR sx) (oR el) (oi 0) (oi 1) (oR m1) (od uy) .second (oi 2) (od 4607182418800017408) .second .unset [(.int 0), (.ref el)]) _
      refine own_ldA X75 hx hZ e75 f69_6 ⟨by decide, by decide⟩ (v := (.ref m0)) rfl (g := (oF_inv m 306 (oR sx) (oR el) (oi 0) (oi 1) (oR m1) (od uy) .second (oi 2) (od 4607182418800017408) .second .unset [(.int 0), (.ref el)])) rfl rfl (hb hby o214_306) _ ?_
      refine XS.aloadN X75.here hx rfl (hb hby o214_307) rfl rfl ?_
      exact k) ?_
    obtain ⟨T76, X76, e76, st76⟩ := getF X75 hx hZ hown (host := "") (Or.inl ow25) Via.refl e75 (Gp1.keep K69 nn_sx) (g := (oF_inv m 308 (oR sx) (oR el) (oi 0) (oi 1) (oR m1) (od uy) .second (oi 2) (od 4607182418800017408) .second .unset [(.ref sx), (.ref m0)])) rfl rfl (hb hby o214_308)
    refine own_go st76 ?_
    refine own_go (A := oW p e below T76 (oF_inv m 312 (oR sx) (oR el) (oi 0) (oi 1) (oR m1) (od uy) .second (oi 2) (od 4607182418800017408) .second .unset [(.ref sx), (.int 2), (.ref m0)])) (fun t k => by
      refine XS.aloadN X76.here hx rfl (hb hby o214_311) rfl rfl ?_
      exact k) ?_
    obtain ⟨T77, X77, e77, st77⟩ := getF X76 hx hZ hown (host := "") (Or.inl ow40) Via.refl e76 (Gp5.keep K69 nn_sx) (g := (oF_inv m 312 (oR sx) (oR el) (oi 0) (oi 1) (oR m1) (od uy) .second (oi 2) (od 4607182418800017408) .second .unset [(.ref sx), (.int 2), (.ref m0)])) rfl rfl (hb hby o214_312)
    refine own_go st77 ?_
    refine own_go (A := oW p e below T77 (oF_inv m 319 (oR sx) (oR el) (oi 0) (oi 1) (oR m1) (od uy) .second (oi 2) (od 4607182418800017408) .second .unset [(.ref sx), (.int 0), (.ref i0), (.int 2), (.ref m0)])) (fun t k => by
      refine XS.iloadN X77.here hx rfl (hb hby o214_315) rfl ?_
      refine own_ldA X77 hx hZ e77 (Gp17.keep K69 nn_iv) ⟨by decide, by decide⟩ (v := (.ref i0)) rfl (g := (oF_inv m 316 (oR sx) (oR el) (oi 0) (oi 1) (oR m1) (od uy) .second (oi 2) (od 4607182418800017408) .second .unset [(.int 0), (.ref iv), (.int 2), (.ref m0)])) rfl rfl (hb hby o214_316) _ ?_
      refine XS.iconst X77.here hx rfl (hb hby o214_317) ?_
      show oW p e below T77 (oF_inv m 318 (oR sx) (oR el) (oi 0) (oi 1) (oR m1) (od uy) .second (oi 2) (od 4607182418800017408) .second .unset [(.int 0), (.ref i0), (.int 2), (.ref m0)]) _
      refine XS.aloadN X77.here hx rfl (hb hby o214_318) rfl rfl ?_
      exact k) ?_
    obtain ⟨T78, X78, e78, st78⟩ := getF X77 hx hZ hown (host := "") (Or.inl ow25) Via.refl e77 (Gp1.keep K69 nn_sx) (g := (oF_inv m 319 (oR sx) (oR el) (oi 0) (oi 1) (oR m1) (od uy) .second (oi 2) (od 4607182418800017408) .second .unset [(.ref sx), (.int 0), (.ref i0), (.int 2), (.ref m0)])) rfl rfl (hb hby o214_319)
    refine own_go st78 ?_
    obtain ⟨T79, h79, L79, X79, e79, N79, Kc79, A79, st79⟩ := cpA X78 hx hZ hown ow81 ow84 ow82 ow83 e78 f69_14 f69_10 (us := [(.double vx), (.double 0)]) (Or.inl ⟨rfl, rfl⟩) (by decide) (by decide) (by decide) (by decide) (by decide) rfl (by decide) N69 g_i0 (g := (oF_inv m 322 (oR sx) (oR el) (oi 0) (oi 1) (oR m1) (od uy) .second (oi 2) (od 4607182418800017408) .second .unset [(.int 2), (.int 0), (.ref i0), (.int 2), (.ref m0)])) rfl (by rw [hml]; rfl) rfl (hb hby o214_322) (by decide) (W := 0) (by show 2 * 0 + _ ≤ _; exact Nat.le_of_eq rfl) (by decide)
    refine own_go st79 ?_
    have V79 : Arv Z h79 i0 ki0 .double (2 : Int32) [(.double vx), (.double 0)] (.double 0) := A79
    have f79_6 : Arv Z h79 el kel (.array .double) (2 : Int32) [(.ref m0), (.ref m1)] .null := f69_6.keep Kc79 (ninS od_i0_el.symm nin0)
    have f79_10 : Arv Z h79 i0 ki0 .double (2 : Int32) [(.double vx), (.double 0)] (.double 0) := V79
    have f79_11 : Arv Z h79 i1 ki1 .double (2 : Int32) [(.double 0), (.double 0)] (.double 0) := f69_11.keep Kc79 (ninS od_i0_i1.symm nin0)
    have f79_13 : Arv Z h79 vl kvl .double (2 : Int32) [(.double 0), (.double 0)] (.double 0) := f69_13.keep Kc79 (ninS od_i0_vl.symm nin0)
    have f79_14 : Arv Z h79 m0 km0 .double (4 : Int32) [(.double 4607182418800017408), (.double 0), (.double vx), (.double 0)] (.double 0) := f69_14.keep Kc79 (ninS od_i0_m0.symm nin0)
    have f79_15 : Arv Z h79 m1 km1 .double (4 : Int32) [(.double 0), (.double 4607182418800017408), (.double 0), (.double vy)] (.double 0) := V69.keep Kc79 (ninS od_i0_m1.symm nin0)
    have Z79 : n0 ≤ h79.size := Nat.le_trans Z69 Kc79.1
    have K79 : Keep h0 h79 [el, m0, m1, i0, i1, vl] := K69.trans Kc79 (allS (Or.inl (List.mem_of_getElem? (i := 3) rfl)) all0)
    refine own_go (A := oW p e below T79 (oF_inv m 298 (oR sx) (oR el) (oi 1) (oi 1) (oR m1) (od uy) .second (oi 2) (od 4607182418800017408) .second .unset [(.ref sx), (.int 1)])) (fun t k => by
      refine XS.iinc X79.here hx rfl (hb hby o214_325) rfl (l' := #[(oR sx), (oR el), (oi 1), (oi 1), (oR m1), (od uy), .second, (oi 2), (od 4607182418800017408), .second, .unset]) rfl ?_
      refine XS.goto X79.here hx rfl (pc0 := 328) (pc' := 296) rfl (hb hby o214_328) (by decide) (by decide) ?_
      refine XS.iloadN X79.here hx rfl (hb hby o214_296) rfl ?_
      refine XS.aloadN X79.here hx rfl (hb hby o214_297) rfl rfl ?_
      exact k) ?_
    obtain ⟨T80, X80, e80, st80⟩ := getF X79 hx hZ hown (host := "") (Or.inl ow25) Via.refl e79 (Gp1.keep K79 nn_sx) (g := (oF_inv m 298 (oR sx) (oR el) (oi 1) (oi 1) (oR m1) (od uy) .second (oi 2) (od 4607182418800017408) .second .unset [(.ref sx), (.int 1)])) rfl rfl (hb hby o214_298)
    refine own_go st80 ?_
    refine own_go (A := oW p e below T80 (oF_inv m 308 (oR sx) (oR el) (oi 1) (oi 1) (oR m1) (od uy) .second (oi 2) (od 4607182418800017408) .second .unset [(.ref sx), (.ref m1)])) (fun t k => by
      refine XS.icmpNo X80.here hx rfl (hb hby o214_301) rfl (tlt (by decide : (1 : Int32) < (2 : Int32))).2.1 ?_
      show oW p e below T80 (oF_inv m 304 (oR sx) (oR el) (oi 1) (oi 1) (oR m1) (od uy) .second (oi 2) (od 4607182418800017408) .second .unset []) _
      refine XS.aloadN X80.here hx rfl (hb hby o214_304) rfl rfl ?_
      refine XS.iloadN X80.here hx rfl (hb hby o214_305) rfl ?_
      refine own_ldA X80 hx hZ e80 f79_6 ⟨by decide, by decide⟩ (v := (.ref m1)) rfl (g := (oF_inv m 306 (oR sx) (oR el) (oi 1) (oi 1) (oR m1) (od uy) .second (oi 2) (od 4607182418800017408) .second .unset [(.int 1), (.ref el)])) rfl rfl (hb hby o214_306) _ ?_
      refine XS.aloadN X80.here hx rfl (hb hby o214_307) rfl rfl ?_
      exact k) ?_
    obtain ⟨T81, X81, e81, st81⟩ := getF X80 hx hZ hown (host := "") (Or.inl ow25) Via.refl e80 (Gp1.keep K79 nn_sx) (g := (oF_inv m 308 (oR sx) (oR el) (oi 1) (oi 1) (oR m1) (od uy) .second (oi 2) (od 4607182418800017408) .second .unset [(.ref sx), (.ref m1)])) rfl rfl (hb hby o214_308)
    refine own_go st81 ?_
    refine own_go (A := oW p e below T81 (oF_inv m 312 (oR sx) (oR el) (oi 1) (oi 1) (oR m1) (od uy) .second (oi 2) (od 4607182418800017408) .second .unset [(.ref sx), (.int 2), (.ref m1)])) (fun t k => by
      refine XS.aloadN X81.here hx rfl (hb hby o214_311) rfl rfl ?_
      exact k) ?_
    obtain ⟨T82, X82, e82, st82⟩ := getF X81 hx hZ hown (host := "") (Or.inl ow40) Via.refl e81 (Gp5.keep K79 nn_sx) (g := (oF_inv m 312 (oR sx) (oR el) (oi 1) (oi 1) (oR m1) (od uy) .second (oi 2) (od 4607182418800017408) .second .unset [(.ref sx), (.int 2), (.ref m1)])) rfl rfl (hb hby o214_312)
    refine own_go st82 ?_
    refine own_go (A := oW p e below T82 (oF_inv m 319 (oR sx) (oR el) (oi 1) (oi 1) (oR m1) (od uy) .second (oi 2) (od 4607182418800017408) .second .unset [(.ref sx), (.int 0), (.ref i1), (.int 2), (.ref m1)])) (fun t k => by
      refine XS.iloadN X82.here hx rfl (hb hby o214_315) rfl ?_
      show oW p e below T82 (oF_inv m 316 (oR sx) (oR el) (oi 1) (oi 1) (oR m1) (od uy) .second (oi 2) (od 4607182418800017408) .second .unset [(.int 1), (.ref iv), (.int 2), (.ref m1)]) _
      refine own_ldA X82 hx hZ e82 (Gp17.keep K79 nn_iv) ⟨by decide, by decide⟩ (v := (.ref i1)) rfl (g := (oF_inv m 316 (oR sx) (oR el) (oi 1) (oi 1) (oR m1) (od uy) .second (oi 2) (od 4607182418800017408) .second .unset [(.int 1), (.ref iv), (.int 2), (.ref m1)])) rfl rfl (hb hby o214_316) _ ?_
      refine XS.iconst X82.here hx rfl (hb hby o214_317) ?_
      refine XS.aloadN X82.here hx rfl (hb hby o214_318) rfl rfl ?_
      exact k) ?_
    obtain ⟨T83, X83, e83, st83⟩ := getF X82 hx hZ hown (host := "") (Or.inl ow25) Via.refl e82 (Gp1.keep K79 nn_sx) (g := (oF_inv m 319 (oR sx) (oR el) (oi 1) (oi 1) (oR m1) (od uy) .second (oi 2) (od 4607182418800017408) .second .unset [(.ref sx), (.int 0), (.ref i1), (.int 2), (.ref m1)])) rfl rfl (hb hby o214_319)
    refine own_go st83 ?_
    obtain ⟨T84, h84, L84, X84, e84, N84, Kc84, A84, st84⟩ := cpA X83 hx hZ hown ow81 ow84 ow82 ow83 e83 f79_15 f79_11 (us := [(.double 0), (.double vy)]) (Or.inl ⟨rfl, rfl⟩) (by decide) (by decide) (by decide) (by decide) (by decide) rfl (by decide) N79 g_i1 (g := (oF_inv m 322 (oR sx) (oR el) (oi 1) (oi 1) (oR m1) (od uy) .second (oi 2) (od 4607182418800017408) .second .unset [(.int 2), (.int 0), (.ref i1), (.int 2), (.ref m1)])) rfl (by rw [hml]; rfl) rfl (hb hby o214_322) (by decide) (W := 0) (by show 2 * 0 + _ ≤ _; exact Nat.le_of_eq rfl) (by decide)
    refine own_go st84 ?_
    have V84 : Arv Z h84 i1 ki1 .double (2 : Int32) [(.double 0), (.double vy)] (.double 0) := A84
    have f84_6 : Arv Z h84 el kel (.array .double) (2 : Int32) [(.ref m0), (.ref m1)] .null := f79_6.keep Kc84 (ninS od_i1_el.symm nin0)
    have f84_10 : Arv Z h84 i0 ki0 .double (2 : Int32) [(.double vx), (.double 0)] (.double 0) := f79_10.keep Kc84 (ninS od_i0_i1 nin0)
    have f84_11 : Arv Z h84 i1 ki1 .double (2 : Int32) [(.double 0), (.double vy)] (.double 0) := V84
    have f84_13 : Arv Z h84 vl kvl .double (2 : Int32) [(.double 0), (.double 0)] (.double 0) := f79_13.keep Kc84 (ninS od_i1_vl.symm nin0)
    have f84_14 : Arv Z h84 m0 km0 .double (4 : Int32) [(.double 4607182418800017408), (.double 0), (.double vx), (.double 0)] (.double 0) := f79_14.keep Kc84 (ninS od_i1_m0.symm nin0)
    have f84_15 : Arv Z h84 m1 km1 .double (4 : Int32) [(.double 0), (.double 4607182418800017408), (.double 0), (.double vy)] (.double 0) := f79_15.keep Kc84 (ninS od_i1_m1.symm nin0)
    have Z84 : n0 ≤ h84.size := Nat.le_trans Z79 Kc84.1
    have K84 : Keep h0 h84 [el, m0, m1, i0, i1, vl] := K79.trans Kc84 (allS (Or.inl (List.mem_of_getElem? (i := 4) rfl)) all0)
    refine own_go (A := oW p e below T84 (oF_inv m 298 (oR sx) (oR el) (oi 2) (oi 1) (oR m1) (od uy) .second (oi 2) (od 4607182418800017408) .second .unset [(.ref sx), (.int 2)])) (fun t k => by
      refine XS.iinc X84.here hx rfl (hb hby o214_325) rfl (l' := #[(oR sx), (oR el), (oi 2), (oi 1), (oR m1), (od uy), .second, (oi 2), (od 4607182418800017408), .second, .unset]) rfl ?_
      refine XS.goto X84.here hx rfl (pc0 := 328) (pc' := 296) rfl (hb hby o214_328) (by decide) (by decide) ?_
      refine XS.iloadN X84.here hx rfl (hb hby o214_296) rfl ?_
      show oW p e below T84 (oF_inv m 297 (oR sx) (oR el) (oi 2) (oi 1) (oR m1) (od uy) .second (oi 2) (od 4607182418800017408) .second .unset [(.int 2)]) _
      refine XS.aloadN X84.here hx rfl (hb hby o214_297) rfl rfl ?_
      exact k) ?_
    obtain ⟨T85, X85, e85, st85⟩ := getF X84 hx hZ hown (host := "") (Or.inl ow25) Via.refl e84 (Gp1.keep K84 nn_sx) (g := (oF_inv m 298 (oR sx) (oR el) (oi 2) (oi 1) (oR m1) (od uy) .second (oi 2) (od 4607182418800017408) .second .unset [(.ref sx), (.int 2)])) rfl rfl (hb hby o214_298)
    refine own_go st85 ?_
    refine own_go (A := oW p e below T85 (oF_inv m 333 (oR sx) (oR el) (oi 2) (oi 1) (oR m1) (od uy) .second (oi 2) (od 4607182418800017408) .second .unset [(.ref sx), (.ref sx)])) (fun t k => by
      refine XS.icmpYes X85.here hx rfl (pc0 := 301) (pc' := 331) rfl (hb hby o214_301) rfl (flt (by decide : ¬ ((2 : Int32) < (2 : Int32)))).2.1 (by decide) (by decide) ?_
      refine XS.aloadN X85.here hx rfl (hb hby o214_331) rfl rfl ?_
      refine XS.aloadN X85.here hx rfl (hb hby o214_332) rfl rfl ?_
      exact k) ?_
    obtain ⟨T86, X86, e86, st86⟩ := getF X85 hx hZ hown (host := "") (Or.inl ow35) Via.refl e85 (Gp6.keep K84 nn_sx) (g := (oF_inv m 333 (oR sx) (oR el) (oi 2) (oi 1) (oR m1) (od uy) .second (oi 2) (od 4607182418800017408) .second .unset [(.ref sx), (.ref sx)])) rfl rfl (hb hby o214_333)
    refine own_go st86 ?_
    refine own_go (A := oW p e below T86 (oF_inv m 337 (oR sx) (oR el) (oi 2) (oi 1) (oR m1) (od uy) .second (oi 2) (od 4607182418800017408) .second .unset [(.ref sx), (.ref li), (.ref sx)])) (fun t k => by
      refine XS.aloadN X86.here hx rfl (hb hby o214_336) rfl rfl ?_
      exact k) ?_
    obtain ⟨T87, X87, e87, st87⟩ := getF X86 hx hZ hown (host := "") (Or.inl ow42) Via.refl e86 (Gp7.keep K84 nn_sx) (g := (oF_inv m 337 (oR sx) (oR el) (oi 2) (oi 1) (oR m1) (od uy) .second (oi 2) (od 4607182418800017408) .second .unset [(.ref sx), (.ref li), (.ref sx)])) rfl rfl (hb hby o214_337)
    refine own_go st87 ?_
    obtain ⟨cq88, q88a, q88b⟩ := Exa.cell (Gp0.keep K84)
    obtain ⟨_, _, ⟨T88, L88, k88, n88⟩, -, X88, ⟨Lc88, hQ88, l88, y88, z88⟩, st88⟩ := own_privBack X87 hx (y := (⟨"com/example/composure/composure/select/Simplex", "times", "([D[D)V"⟩ : MethodName)) (z := (⟨"com/example/composure/composure/select/Simplex", "add", "([DD)I"⟩ : MethodName)) (w := (⟨"com/example/composure/composure/select/Simplex", "add", "([DD)I"⟩ : MethodName)) hown (mvT hZ ow85) (mvT hZ ow86) (mvT hZ ow57) rfl (Cond.privateMethod_at (mvP hZ ow87 (args := #[]))) (mvT hZ ow88) (by decide) (backOf (W := 0) (own_rm_times l Z a0 hw [] sx li vl co y0 y1 cs bc ba iv i0 i1 el m0 m1 pb kiv ki0 ki1 kli kvl vx (0 : UInt64) (0 : UInt64) vy dl dm (0 : UInt64) (0 : UInt64) h84 n0 Z84 hnd g_vl ok0 ok1 (Gp0.keep K84) (Gp1.keep K84 nn_sx) (Gp5.keep K84 nn_sx) (Gp17.keep K84 nn_iv) f84_10 f84_11 (Gp20.keep K84 nn_li) f84_13) hZ ow88 ow7 (by decide) (by decide)) (g := (oF_inv m 340 (oR sx) (oR el) (oi 2) (oi 1) (oR m1) (od uy) .second (oi 2) (od 4607182418800017408) .second .unset [(.ref vl), (.ref li), (.ref sx)])) rfl (by rw [hml]; rfl) (Steps.refl _) (a := sx) (by rw [e87]; exact q88a) q88b (argsL := [(.ref li), (.ref vl)]) (rest := []) (lenOf own_pd_285bD5bD29V rfl) rfl (by show 2 * 0 + _ ≤ _; exact Nat.le_of_eq rfl) (hb hby o214_340) (fun _ _ => ⟨rfl, e87, (by decide : 0 + 0 ≤ _), (by decide : 0 + 0 ≤ _)⟩)
    dsimp only [Pt.U, Pt.locs, Pt.cells, Pt.slots] at X88 l88 y88 z88 st88 hQ88
    subst l88 y88 z88
    obtain ⟨rfl, N88q, K88q, p88_0⟩ := hQ88
    have N88 := Fr.app N84 N88q
    have f88_6 : Arv Z T88.heap el kel (.array .double) (2 : Int32) [(.ref m0), (.ref m1)] .null := f84_6.keep K88q (ninS od_vl_el.symm nin0)
    have f88_10 : Arv Z T88.heap i0 ki0 .double (2 : Int32) [(.double vx), (.double 0)] (.double 0) := f84_10.keep K88q (ninS od_i0_vl nin0)
    have f88_11 : Arv Z T88.heap i1 ki1 .double (2 : Int32) [(.double 0), (.double vy)] (.double 0) := f84_11.keep K88q (ninS od_i1_vl nin0)
    have f88_14 : Arv Z T88.heap m0 km0 .double (4 : Int32) [(.double 4607182418800017408), (.double 0), (.double vx), (.double 0)] (.double 0) := f84_14.keep K88q (ninS od_vl_m0.symm nin0)
    have f88_15 : Arv Z T88.heap m1 km1 .double (4 : Int32) [(.double 0), (.double 4607182418800017408), (.double 0), (.double vy)] (.double 0) := f84_15.keep K88q (ninS od_vl_m1.symm nin0)
    have Z88 : n0 ≤ T88.heap.size := Nat.le_trans Z84 K88q.1
    have K88 : Keep h0 T88.heap [el, m0, m1, i0, i1, vl] := K84.trans K88q (allS (Or.inl (List.mem_of_getElem? (i := 5) rfl)) all0)
    refine own_go (fun _ k => st88.trans k) ?_
    refine own_go (A := oW p e below T88 (oF_inv m 344 (oR sx) (oR el) (oi 2) (oi 1) (oR m1) (od uy) .second (oi 2) (od 4607182418800017408) .second .unset [(.int 1)])) (fun t k => by
      refine XS.iconst X88.here hx rfl (hb hby o214_343) ?_
      exact k) ?_
    obtain ⟨fs, hr, hrun, hended, hW, hsame⟩ := X88.leave (v := some (.int (nar .boolean (1 : Int32)))) (fun h => by rw [Bd.returns] at h; cases h)
    refine ⟨_, _, retN X88 hx (t := .boolean) Bd.returns (by simp) (hb hby o214_344) hr, hPf _ _ ⟨hrun, hended, _, _, rfl, ?_, ⟨_, rfl⟩, hW, hsame.mono (by decide) (by decide)⟩⟩
    show own_Q_inv Z sx co y0 y1 cs bc li ba iv i0 i1 vl el m0 m1 pb kco ky0 ky1 kcs kbc kli kba kiv ki0 ki1 kvl kel km0 km1 kpb ux vx wx uy vy wy dl dm ux FP.dconst0 FP.dconst0 uy vx (0 : UInt64) (0 : UInt64) vy b0 b1 vco h0 n0 _ T88.heap _
    exact ⟨rfl, N88, K88, p88_0⟩
  · subst mt00 mt01 mt10 mt11 q00 q01 q10 q11
    refine own_go (A := oW p e below T32 (oF_inv m 87 (oR sx) (oR el) (oi 0) (oi 2) .unset .unset .unset .unset .unset .unset .unset [(.ref sx), (.int 0)])) (fun t k => by
      refine XS.iconst X32.here hx rfl (hb hby o214_83) ?_
      refine XS.istoreN X32.here hx rfl (hb hby o214_84) rfl (l' := #[(oR sx), (oR el), (oi 0), (oi 2), .unset, .unset, .unset, .unset, .unset, .unset, .unset]) rfl ?_
      refine XS.iloadN X32.here hx rfl (hb hby o214_85) rfl ?_
      refine XS.aloadN X32.here hx rfl (hb hby o214_86) rfl rfl ?_
      exact k) ?_
    obtain ⟨T89, X89, e89, st89⟩ := getF X32 hx hZ hown (host := "") (Or.inl ow25) Via.refl e32 (Gp1.keep K31 nn_sx) (g := (oF_inv m 87 (oR sx) (oR el) (oi 0) (oi 2) .unset .unset .unset .unset .unset .unset .unset [(.ref sx), (.int 0)])) rfl rfl (hb hby o214_87)
    refine own_go st89 ?_
    refine own_go (A := oW p e below T89 (oF_inv m 103 (oR sx) (oR el) (oi 0) (oi 0) (oi 1) .unset .unset .unset .unset .unset .unset [(.ref sx), (.int 1)])) (fun t k => by
      refine XS.icmpNo X89.here hx rfl (hb hby o214_90) rfl (tlt (by decide : (0 : Int32) < (2 : Int32))).2.1 ?_
      refine XS.iloadN X89.here hx rfl (hb hby o214_93) rfl ?_
      show oW p e below T89 (oF_inv m 94 (oR sx) (oR el) (oi 0) (oi 2) .unset .unset .unset .unset .unset .unset .unset [(.int 0)]) _
      refine XS.istoreN X89.here hx rfl (hb hby o214_94) rfl (l' := #[(oR sx), (oR el), (oi 0), (oi 0), .unset, .unset, .unset, .unset, .unset, .unset, .unset]) rfl ?_
      refine XS.iloadN X89.here hx rfl (hb hby o214_95) rfl ?_
      refine XS.iconst X89.here hx rfl (hb hby o214_96) ?_
      refine XS.iadd X89.here hx rfl (hb hby o214_97) rfl ?_
      refine XS.istore X89.here hx rfl (hb hby o214_98) rfl (l' := #[(oR sx), (oR el), (oi 0), (oi 0), (oi 1), .unset, .unset, .unset, .unset, .unset, .unset]) rfl ?_
      refine XS.iload X89.here hx rfl (hb hby o214_100) rfl ?_
      show oW p e below T89 (oF_inv m 102 (oR sx) (oR el) (oi 0) (oi 0) (oi 1) .unset .unset .unset .unset .unset .unset [(.int 1)]) _
      refine XS.aloadN X89.here hx rfl (hb hby o214_102) rfl rfl ?_
      exact k) ?_
    obtain ⟨T90, X90, e90, st90⟩ := getF X89 hx hZ hown (host := "") (Or.inl ow25) Via.refl e89 (Gp1.keep K31 nn_sx) (g := (oF_inv m 103 (oR sx) (oR el) (oi 0) (oi 0) (oi 1) .unset .unset .unset .unset .unset .unset [(.ref sx), (.int 1)])) rfl rfl (hb hby o214_103)
    refine own_go st90 ?_
    refine own_go (A := oW p e below T90 (oF_inv m 115 (oR sx) (oR el) (oi 0) (oi 0) (oi 1) .unset .unset .unset .unset .unset .unset [(.double uy)])) (fun t k => by
      refine XS.icmpNo X90.here hx rfl (hb hby o214_106) rfl (tlt (by decide : (1 : Int32) < (2 : Int32))).2.1 ?_
      refine XS.aloadN X90.here hx rfl (hb hby o214_109) rfl rfl ?_
      refine XS.iload X90.here hx rfl (hb hby o214_110) rfl ?_
      refine own_ldA X90 hx hZ e90 f31_8 ⟨by decide, by decide⟩ (v := (.ref m1)) rfl (g := (oF_inv m 112 (oR sx) (oR el) (oi 0) (oi 0) (oi 1) .unset .unset .unset .unset .unset .unset [(.int 1), (.ref el)])) rfl rfl (hb hby o214_112) _ ?_
      refine XS.iloadN X90.here hx rfl (hb hby o214_113) rfl ?_
      show oW p e below T90 (oF_inv m 114 (oR sx) (oR el) (oi 0) (oi 0) (oi 1) .unset .unset .unset .unset .unset .unset [(.int 0), (.ref m1)]) _
      refine own_ldD X90 hx hZ e90 V31 ⟨by decide, by decide⟩ (v := (.double uy)) rfl (g := (oF_inv m 114 (oR sx) (oR el) (oi 0) (oi 0) (oi 1) .unset .unset .unset .unset .unset .unset [(.int 0), (.ref m1)])) rfl rfl (hb hby o214_114) _ ?_
      exact k) ?_
    obtain ⟨_, vm91, B91, -, X91q, ⟨hr91, hB91⟩, st91⟩ := Jvm.LawKit.callS X90 hx (y := (⟨"java/lang/Math", "abs", "(D)D"⟩ : MethodName)) hown (mvT hZ ow76) (mvT hZ ow77) (mvT hZ ow78) (mvT hZ ow79) (by decide) (Jvm.Free.Fl.Abs.absD_pays (W := 0) uy (mvT hZ ow79) (by decide) (by decide)) (g := (oF_inv m 115 (oR sx) (oR el) (oi 0) (oi 0) (oi 1) .unset .unset .unset .unset .unset .unset [(.double uy)])) rfl (by rw [hml]; rfl) (argsL := [(.double uy)]) (rest := []) (lenOf own_pd_28D29D rfl) rfl (by show 2 * 0 + _ ≤ _; exact Nat.le_of_eq rfl) (hb hby o214_115) (fun _ _ => ⟨(by decide : 0 ≤ _), (by decide : 0 ≤ _), rfl, (own_s2 hPx hPy)⟩)
    subst hB91; subst hr91
    obtain ⟨T91, eT91⟩ : ∃ z, z = T90.setVm vm91 := ⟨_, rfl⟩
    dsimp only [Pt.U, Pt.locs, Pt.cells, Pt.slots] at X91q st91
    rw [← eT91] at X91q st91
    have X91 := X91q
    have e91 : T91.heap = h31 := by rw [eT91]; exact e90
    rw [own_f8 hPx hPy] at st91
    refine own_go st91 ?_
    refine own_go (A := oW p e below T91 (oF_inv m 123 (oR sx) (oR el) (oi 0) (oi 0) (oi 1) .unset .unset .unset .unset .unset .unset [(.double FP.dconst0), (.double uy)])) (fun t k => by
      refine XS.aloadN X91.here hx rfl (hb hby o214_118) rfl rfl ?_
      refine XS.iloadN X91.here hx rfl (hb hby o214_119) rfl ?_
      refine own_ldA X91 hx hZ e91 f31_8 ⟨by decide, by decide⟩ (v := (.ref m0)) rfl (g := (oF_inv m 120 (oR sx) (oR el) (oi 0) (oi 0) (oi 1) .unset .unset .unset .unset .unset .unset [(.int 0), (.ref el), (.double uy)])) rfl rfl (hb hby o214_120) _ ?_
      refine XS.iloadN X91.here hx rfl (hb hby o214_121) rfl ?_
      refine own_ldD X91 hx hZ e91 f31_20 ⟨by decide, by decide⟩ (v := (.double FP.dconst0)) rfl (g := (oF_inv m 122 (oR sx) (oR el) (oi 0) (oi 0) (oi 1) .unset .unset .unset .unset .unset .unset [(.int 0), (.ref m0), (.double uy)])) rfl rfl (hb hby o214_122) _ ?_
      exact k) ?_
    obtain ⟨_, vm92, B92, -, X92q, ⟨hr92, hB92⟩, st92⟩ := Jvm.LawKit.callS X91 hx (y := (⟨"java/lang/Math", "abs", "(D)D"⟩ : MethodName)) hown (mvT hZ ow76) (mvT hZ ow77) (mvT hZ ow78) (mvT hZ ow79) (by decide) (Jvm.Free.Fl.Abs.absD_pays (W := 2) FP.dconst0 (mvT hZ ow79) (by decide) (by decide)) (g := (oF_inv m 123 (oR sx) (oR el) (oi 0) (oi 0) (oi 1) .unset .unset .unset .unset .unset .unset [(.double FP.dconst0), (.double uy)])) rfl (by rw [hml]; rfl) (argsL := [(.double FP.dconst0)]) (rest := [(.double uy)]) (lenOf own_pd_28D29D rfl) rfl (by show 2 * 0 + _ ≤ _; exact Nat.le_of_eq rfl) (hb hby o214_123) (fun _ _ => ⟨(by decide : 0 ≤ _), (by decide : 0 ≤ _), rfl, (own_s0 hPx hPy)⟩)
    subst hB92; subst hr92
    obtain ⟨T92, eT92⟩ : ∃ z, z = T91.setVm vm92 := ⟨_, rfl⟩
    dsimp only [Pt.U, Pt.locs, Pt.cells, Pt.slots] at X92q st92
    rw [← eT92] at X92q st92
    have X92 := X92q
    have e92 : T92.heap = h31 := by rw [eT92]; exact e91
    rw [own_f0 hPx hPy] at st92
    refine own_go st92 ?_
    refine own_go (A := oW p e below T92 (oF_inv m 103 (oR sx) (oR el) (oi 0) (oi 1) (oi 2) .unset .unset .unset .unset .unset .unset [(.ref sx), (.int 2)])) (fun t k => by
      refine XS.dcmpS X92.here hx rfl (hb hby o214_126) rfl (own_f14 hPx hPy) ?_
      refine XS.ifNo X92.here hx rfl (hb hby o214_127) rfl ((if0 _ _).trans (tlt (by decide : (0 : Int32) < (1 : Int32))).2.2.2) ?_
      refine XS.iload X92.here hx rfl (hb hby o214_130) rfl ?_
      refine XS.istoreN X92.here hx rfl (hb hby o214_132) rfl (l' := #[(oR sx), (oR el), (oi 0), (oi 1), (oi 1), .unset, .unset, .unset, .unset, .unset, .unset]) rfl ?_
      refine XS.iinc X92.here hx rfl (hb hby o214_133) rfl (l' := #[(oR sx), (oR el), (oi 0), (oi 1), (oi 2), .unset, .unset, .unset, .unset, .unset, .unset]) rfl ?_
      refine XS.goto X92.here hx rfl (pc0 := 136) (pc' := 100) rfl (hb hby o214_136) (by decide) (by decide) ?_
      show oW p e below T92 (oF_inv m 100 (oR sx) (oR el) (oi 0) (oi 1) (oi 2) .unset .unset .unset .unset .unset .unset []) _
      refine XS.iload X92.here hx rfl (hb hby o214_100) rfl ?_
      refine XS.aloadN X92.here hx rfl (hb hby o214_102) rfl rfl ?_
      exact k) ?_
    obtain ⟨T93, X93, e93, st93⟩ := getF X92 hx hZ hown (host := "") (Or.inl ow25) Via.refl e92 (Gp1.keep K31 nn_sx) (g := (oF_inv m 103 (oR sx) (oR el) (oi 0) (oi 1) (oi 2) .unset .unset .unset .unset .unset .unset [(.ref sx), (.int 2)])) rfl rfl (hb hby o214_103)
    refine own_go st93 ?_
    refine own_go (A := oW p e below T93 (oF_inv m 144 (oR sx) (oR el) (oi 0) (oi 1) (oi 2) .unset .unset .unset .unset .unset .unset [(.double uy)])) (fun t k => by
      refine XS.icmpYes X93.here hx rfl (pc0 := 106) (pc' := 139) rfl (hb hby o214_106) rfl (flt (by decide : ¬ ((2 : Int32) < (2 : Int32)))).2.1 (by decide) (by decide) ?_
      refine XS.aloadN X93.here hx rfl (hb hby o214_139) rfl rfl ?_
      refine XS.iloadN X93.here hx rfl (hb hby o214_140) rfl ?_
      refine own_ldA X93 hx hZ e93 f31_8 ⟨by decide, by decide⟩ (v := (.ref m1)) rfl (g := (oF_inv m 141 (oR sx) (oR el) (oi 0) (oi 1) (oi 2) .unset .unset .unset .unset .unset .unset [(.int 1), (.ref el)])) rfl rfl (hb hby o214_141) _ ?_
      show oW p e below T93 (oF_inv m 142 (oR sx) (oR el) (oi 0) (oi 1) (oi 2) .unset .unset .unset .unset .unset .unset [(.ref m1)]) _
      refine XS.iloadN X93.here hx rfl (hb hby o214_142) rfl ?_
      refine own_ldD X93 hx hZ e93 V31 ⟨by decide, by decide⟩ (v := (.double uy)) rfl (g := (oF_inv m 143 (oR sx) (oR el) (oi 0) (oi 1) (oi 2) .unset .unset .unset .unset .unset .unset [(.int 0), (.ref m1)])) rfl rfl (hb hby o214_143) _ ?_
      exact k) ?_
    obtain ⟨_, vm94, B94, -, X94q, ⟨hr94, hB94⟩, st94⟩ := Jvm.LawKit.callS X93 hx (y := (⟨"java/lang/Math", "abs", "(D)D"⟩ : MethodName)) hown (mvT hZ ow76) (mvT hZ ow77) (mvT hZ ow78) (mvT hZ ow79) (by decide) (Jvm.Free.Fl.Abs.absD_pays (W := 0) uy (mvT hZ ow79) (by decide) (by decide)) (g := (oF_inv m 144 (oR sx) (oR el) (oi 0) (oi 1) (oi 2) .unset .unset .unset .unset .unset .unset [(.double uy)])) rfl (by rw [hml]; rfl) (argsL := [(.double uy)]) (rest := []) (lenOf own_pd_28D29D rfl) rfl (by show 2 * 0 + _ ≤ _; exact Nat.le_of_eq rfl) (hb hby o214_144) (fun _ _ => ⟨(by decide : 0 ≤ _), (by decide : 0 ≤ _), rfl, (own_s2 hPx hPy)⟩)
    subst hB94; subst hr94
    obtain ⟨T94, eT94⟩ : ∃ z, z = T93.setVm vm94 := ⟨_, rfl⟩
    dsimp only [Pt.U, Pt.locs, Pt.cells, Pt.slots] at X94q st94
    rw [← eT94] at X94q st94
    have X94 := X94q
    have e94 : T94.heap = h31 := by rw [eT94]; exact e93
    rw [own_f8 hPx hPy] at st94
    refine own_go st94 ?_
    refine own_go (A := oW p e below T94 (oF_inv m 166 (oR sx) (oR el) (oi 0) (oi 1) (oR m0) .unset .unset .unset .unset .unset .unset [(.ref m1), (.int 0), (.ref el)])) (fun t k => by
      refine X94.ldc2DoubleC hx hown (mvT hZ ow80) (g := (oF_inv m 147 (oR sx) (oR el) (oi 0) (oi 1) (oi 2) .unset .unset .unset .unset .unset .unset [(.double uy)])) rfl (hb hby o214_147) _ ?_
      refine XS.dcmpS X94.here hx rfl (hb hby o214_150) rfl (own_f9 hPx hPy) ?_
      refine XS.ifYes X94.here hx rfl (pc0 := 151) (pc' := 156) rfl (hb hby o214_151) rfl ((if0 _ _).trans (tlt (by decide : (0 : Int32) < (1 : Int32))).2.2.1) (by decide) (by decide) ?_
      refine XS.aloadN X94.here hx rfl (hb hby o214_156) rfl rfl ?_
      show oW p e below T94 (oF_inv m 157 (oR sx) (oR el) (oi 0) (oi 1) (oi 2) .unset .unset .unset .unset .unset .unset [(.ref el)]) _
      refine XS.iloadN X94.here hx rfl (hb hby o214_157) rfl ?_
      refine own_ldA X94 hx hZ e94 f31_8 ⟨by decide, by decide⟩ (v := (.ref m0)) rfl (g := (oF_inv m 158 (oR sx) (oR el) (oi 0) (oi 1) (oi 2) .unset .unset .unset .unset .unset .unset [(.int 0), (.ref el)])) rfl rfl (hb hby o214_158) _ ?_
      refine XS.astore X94.here hx rfl (hb hby o214_159) rfl rfl (l' := #[(oR sx), (oR el), (oi 0), (oi 1), (oR m0), .unset, .unset, .unset, .unset, .unset, .unset]) rfl ?_
      refine XS.aloadN X94.here hx rfl (hb hby o214_161) rfl rfl ?_
      refine XS.iloadN X94.here hx rfl (hb hby o214_162) rfl ?_
      refine XS.aloadN X94.here hx rfl (hb hby o214_163) rfl rfl ?_
      show oW p e below T94 (oF_inv m 164 (oR sx) (oR el) (oi 0) (oi 1) (oR m0) .unset .unset .unset .unset .unset .unset [(.ref el), (.int 0), (.ref el)]) _
      refine XS.iloadN X94.here hx rfl (hb hby o214_164) rfl ?_
      refine own_ldA X94 hx hZ e94 f31_8 ⟨by decide, by decide⟩ (v := (.ref m1)) rfl (g := (oF_inv m 165 (oR sx) (oR el) (oi 0) (oi 1) (oR m0) .unset .unset .unset .unset .unset .unset [(.int 1), (.ref el), (.int 0), (.ref el)])) rfl rfl (hb hby o214_165) _ ?_
      exact k) ?_
    obtain ⟨cl95, Ar95, q95, S95, N95, H95, G95⟩ := id (f31_8)
    have hi95 : ¬ ((0 : Int32) < 0 ∨ cl95.slots.size ≤ ((0 : Int32)).toNatClampNeg) := inb_of S95 ⟨by decide, by decide⟩
    obtain ⟨T96, h96, X96, e96, W96, st96⟩ := stR X94 hx hZ e94 Ar95 (j := (0 : Int32)) hi95 rfl (Sto.ofVA Ar95 q95 Oel (Ins.self (Gp16.keep K31))) (g := (oF_inv m 166 (oR sx) (oR el) (oi 0) (oi 1) (oR m0) .unset .unset .unset .unset .unset .unset [(.ref m1), (.int 0), (.ref el)])) rfl rfl (hb hby o214_166)
    refine own_go st96 ?_
    have V96 : Arv Z h96 el kel (.array .double) (2 : Int32) [(.ref m1), (.ref m1)] .null := Arv.set Ar95 q95 S95 N95 H95 G95 rfl W96 0 rfl (Nat.le_of_ble_eq_true rfl)
    have f96_6 : Arv Z h96 el kel (.array .double) (2 : Int32) [(.ref m1), (.ref m1)] .null := V96
    have f96_10 : Arv Z h96 i0 ki0 .double (2 : Int32) [(.double 0), (.double 0)] (.double 0) := f31_16.other W96 (od_i0_el)
    have f96_11 : Arv Z h96 i1 ki1 .double (2 : Int32) [(.double 0), (.double 0)] (.double 0) := f31_17.other W96 (od_i1_el)
    have f96_13 : Arv Z h96 vl kvl .double (2 : Int32) [(.double 0), (.double 0)] (.double 0) := f31_19.other W96 (od_vl_el)
    have f96_14 : Arv Z h96 m0 km0 .double (4 : Int32) [(.double FP.dconst0), (.double ux), (.double FP.dconst1), (.double FP.dconst0)] (.double 0) := f31_20.other W96 (od_el_m0.symm)
    have f96_15 : Arv Z h96 m1 km1 .double (4 : Int32) [(.double uy), (.double FP.dconst0), (.double FP.dconst0), (.double FP.dconst1)] (.double 0) := V31.other W96 (od_el_m1.symm)
    have N96 := Fr.snoc X96 N31 g_el
    have Z96 : n0 ≤ h96.size := Nat.le_trans Z31 (Keep.of_wr W96).1
    have K96 : Keep h0 h96 [el, m0, m1, i0, i1, vl] := K31.wr W96 (Or.inl (List.mem_of_getElem? (i := 0) rfl))
    refine own_go (A := oW p e below T96 (oF_inv m 171 (oR sx) (oR el) (oi 0) (oi 1) (oR m0) .unset .unset .unset .unset .unset .unset [(.ref m0), (.int 1), (.ref el)])) (fun t k => by
      refine XS.aloadN X96.here hx rfl (hb hby o214_167) rfl rfl ?_
      refine XS.iloadN X96.here hx rfl (hb hby o214_168) rfl ?_
      refine XS.aload X96.here hx rfl (hb hby o214_169) rfl rfl ?_
      exact k) ?_
    obtain ⟨cl97, Ar97, q97, S97, N97, H97, G97⟩ := id (f96_6)
    have hi97 : ¬ ((1 : Int32) < 0 ∨ cl97.slots.size ≤ ((1 : Int32)).toNatClampNeg) := inb_of S97 ⟨by decide, by decide⟩
    obtain ⟨T98, h98, X98, e98, W98, st98⟩ := stR X96 hx hZ e96 Ar97 (j := (1 : Int32)) hi97 rfl (Sto.ofVA Ar97 q97 Oel (Ins.self (Gp15.keep K96))) (g := (oF_inv m 171 (oR sx) (oR el) (oi 0) (oi 1) (oR m0) .unset .unset .unset .unset .unset .unset [(.ref m0), (.int 1), (.ref el)])) rfl rfl (hb hby o214_171)
    refine own_go st98 ?_
    have V98 : Arv Z h98 el kel (.array .double) (2 : Int32) [(.ref m1), (.ref m0)] .null := Arv.set Ar97 q97 S97 N97 H97 G97 rfl W98 1 rfl (Nat.le_of_ble_eq_true rfl)
    have f98_6 : Arv Z h98 el kel (.array .double) (2 : Int32) [(.ref m1), (.ref m0)] .null := V98
    have f98_10 : Arv Z h98 i0 ki0 .double (2 : Int32) [(.double 0), (.double 0)] (.double 0) := f96_10.other W98 (od_i0_el)
    have f98_11 : Arv Z h98 i1 ki1 .double (2 : Int32) [(.double 0), (.double 0)] (.double 0) := f96_11.other W98 (od_i1_el)
    have f98_13 : Arv Z h98 vl kvl .double (2 : Int32) [(.double 0), (.double 0)] (.double 0) := f96_13.other W98 (od_vl_el)
    have f98_14 : Arv Z h98 m0 km0 .double (4 : Int32) [(.double FP.dconst0), (.double ux), (.double FP.dconst1), (.double FP.dconst0)] (.double 0) := f96_14.other W98 (od_el_m0.symm)
    have f98_15 : Arv Z h98 m1 km1 .double (4 : Int32) [(.double uy), (.double FP.dconst0), (.double FP.dconst0), (.double FP.dconst1)] (.double 0) := f96_15.other W98 (od_el_m1.symm)
    have N98 := Fr.snoc X98 N96 g_el
    have Z98 : n0 ≤ h98.size := Nat.le_trans Z96 (Keep.of_wr W98).1
    have K98 : Keep h0 h98 [el, m0, m1, i0, i1, vl] := K96.wr W98 (Or.inl (List.mem_of_getElem? (i := 0) rfl))
    refine own_go (A := oW p e below T98 (oF_inv m 186 (oR sx) (oR el) (oi 0) (oi 1) (oR m0) (od uy) .second (oi 0) .unset .unset .unset [(.ref sx), (.int 2), (.int 0)])) (fun t k => by
      refine XS.aloadN X98.here hx rfl (hb hby o214_172) rfl rfl ?_
      show oW p e below T98 (oF_inv m 173 (oR sx) (oR el) (oi 0) (oi 1) (oR m0) .unset .unset .unset .unset .unset .unset [(.ref el)]) _
      refine XS.iloadN X98.here hx rfl (hb hby o214_173) rfl ?_
      refine own_ldA X98 hx hZ e98 f98_6 ⟨by decide, by decide⟩ (v := (.ref m1)) rfl (g := (oF_inv m 174 (oR sx) (oR el) (oi 0) (oi 1) (oR m0) .unset .unset .unset .unset .unset .unset [(.int 0), (.ref el)])) rfl rfl (hb hby o214_174) _ ?_
      refine XS.iloadN X98.here hx rfl (hb hby o214_175) rfl ?_
      refine own_ldD X98 hx hZ e98 f98_15 ⟨by decide, by decide⟩ (v := (.double uy)) rfl (g := (oF_inv m 176 (oR sx) (oR el) (oi 0) (oi 1) (oR m0) .unset .unset .unset .unset .unset .unset [(.int 0), (.ref m1)])) rfl rfl (hb hby o214_176) _ ?_
      refine XS.dstore X98.here hx rfl (hb hby o214_177) rfl (l' := #[(oR sx), (oR el), (oi 0), (oi 1), (oR m0), (od uy), .second, .unset, .unset, .unset, .unset]) rfl ?_
      refine XS.iconst X98.here hx rfl (hb hby o214_179) ?_
      show oW p e below T98 (oF_inv m 180 (oR sx) (oR el) (oi 0) (oi 1) (oR m0) (od uy) .second .unset .unset .unset .unset [(.int 0)]) _
      refine XS.istore X98.here hx rfl (hb hby o214_180) rfl (l' := #[(oR sx), (oR el), (oi 0), (oi 1), (oR m0), (od uy), .second, (oi 0), .unset, .unset, .unset]) rfl ?_
      refine XS.iload X98.here hx rfl (hb hby o214_182) rfl ?_
      refine XS.iconst X98.here hx rfl (hb hby o214_184) ?_
      refine XS.aloadN X98.here hx rfl (hb hby o214_185) rfl rfl ?_
      exact k) ?_
    obtain ⟨T99, X99, e99, st99⟩ := getF X98 hx hZ hown (host := "") (Or.inl ow25) Via.refl e98 (Gp1.keep K98 nn_sx) (g := (oF_inv m 186 (oR sx) (oR el) (oi 0) (oi 1) (oR m0) (od uy) .second (oi 0) .unset .unset .unset [(.ref sx), (.int 2), (.int 0)])) rfl rfl (hb hby o214_186)
    refine own_go st99 ?_
    refine own_go (A := oW p e below T99 (oF_inv m 203 (oR sx) (oR el) (oi 0) (oi 1) (oR m0) (od uy) .second (oi 0) .unset .unset .unset [(.double 4607182418800017408), (.int 0), (.ref m1)])) (fun t k => by
      refine XS.imul X99.here hx rfl (hb hby o214_189) rfl ?_
      refine XS.icmpNo X99.here hx rfl (hb hby o214_190) rfl (tlt (by decide : (0 : Int32) < (4 : Int32))).2.1 ?_
      show oW p e below T99 (oF_inv m 193 (oR sx) (oR el) (oi 0) (oi 1) (oR m0) (od uy) .second (oi 0) .unset .unset .unset []) _
      refine XS.aloadN X99.here hx rfl (hb hby o214_193) rfl rfl ?_
      refine XS.iloadN X99.here hx rfl (hb hby o214_194) rfl ?_
      refine own_ldA X99 hx hZ e99 f98_6 ⟨by decide, by decide⟩ (v := (.ref m1)) rfl (g := (oF_inv m 195 (oR sx) (oR el) (oi 0) (oi 1) (oR m0) (od uy) .second (oi 0) .unset .unset .unset [(.int 0), (.ref el)])) rfl rfl (hb hby o214_195) _ ?_
      refine XS.iload X99.here hx rfl (hb hby o214_196) rfl ?_
      refine XT.dup2 X99.here hx rfl (hb hby o214_198) rfl rfl rfl ?_
      refine own_ldD X99 hx hZ e99 f98_15 ⟨by decide, by decide⟩ (v := (.double uy)) rfl (g := (oF_inv m 199 (oR sx) (oR el) (oi 0) (oi 1) (oR m0) (od uy) .second (oi 0) .unset .unset .unset [(.int 0), (.ref m1), (.int 0), (.ref m1)])) rfl rfl (hb hby o214_199) _ ?_
      show oW p e below T99 (oF_inv m 200 (oR sx) (oR el) (oi 0) (oi 1) (oR m0) (od uy) .second (oi 0) .unset .unset .unset [(.double uy), (.int 0), (.ref m1)]) _
      refine XS.dload X99.here hx rfl (hb hby o214_200) rfl ?_
      refine XS.ddivS X99.here hx rfl (hb hby o214_202) rfl (own_f11n hPx hPy) (own_f11 hPx hPy) ?_
      exact k) ?_
    obtain ⟨T100, h100, X100, e100, W100, U100, st100⟩ := own_stD X99 hx hZ e99 f98_15 (j := (0 : Int32)) ⟨by decide, by decide⟩ 0 rfl (Nat.le_of_ble_eq_true rfl) (g := (oF_inv m 203 (oR sx) (oR el) (oi 0) (oi 1) (oR m0) (od uy) .second (oi 0) .unset .unset .unset [(.double 4607182418800017408), (.int 0), (.ref m1)])) rfl rfl (hb hby o214_203)
    refine own_go st100 ?_
    have V100 : Arv Z h100 m1 km1 .double (4 : Int32) [(.double 4607182418800017408), (.double FP.dconst0), (.double FP.dconst0), (.double FP.dconst1)] (.double 0) := U100
    have f100_6 : Arv Z h100 el kel (.array .double) (2 : Int32) [(.ref m1), (.ref m0)] .null := f98_6.other W100 (od_el_m1)
    have f100_10 : Arv Z h100 i0 ki0 .double (2 : Int32) [(.double 0), (.double 0)] (.double 0) := f98_10.other W100 (od_i0_m1)
    have f100_11 : Arv Z h100 i1 ki1 .double (2 : Int32) [(.double 0), (.double 0)] (.double 0) := f98_11.other W100 (od_i1_m1)
    have f100_13 : Arv Z h100 vl kvl .double (2 : Int32) [(.double 0), (.double 0)] (.double 0) := f98_13.other W100 (od_vl_m1)
    have f100_14 : Arv Z h100 m0 km0 .double (4 : Int32) [(.double FP.dconst0), (.double ux), (.double FP.dconst1), (.double FP.dconst0)] (.double 0) := f98_14.other W100 (od_m0_m1)
    have N100 := Fr.snoc X100 N98 g_m1
    have Z100 : n0 ≤ h100.size := Nat.le_trans Z98 (Keep.of_wr W100).1
    have K100 : Keep h0 h100 [el, m0, m1, i0, i1, vl] := K98.wr W100 (Or.inl (List.mem_of_getElem? (i := 2) rfl))
    refine own_go (A := oW p e below T100 (oF_inv m 186 (oR sx) (oR el) (oi 0) (oi 1) (oR m0) (od uy) .second (oi 1) .unset .unset .unset [(.ref sx), (.int 2), (.int 1)])) (fun t k => by
      refine XS.iinc X100.here hx rfl (hb hby o214_204) rfl (l' := #[(oR sx), (oR el), (oi 0), (oi 1), (oR m0), (od uy), .second, (oi 1), .unset, .unset, .unset]) rfl ?_
      refine XS.goto X100.here hx rfl (pc0 := 207) (pc' := 182) rfl (hb hby o214_207) (by decide) (by decide) ?_
      refine XS.iload X100.here hx rfl (hb hby o214_182) rfl ?_
      refine XS.iconst X100.here hx rfl (hb hby o214_184) ?_
      show oW p e below T100 (oF_inv m 185 (oR sx) (oR el) (oi 0) (oi 1) (oR m0) (od uy) .second (oi 1) .unset .unset .unset [(.int 2), (.int 1)]) _
      refine XS.aloadN X100.here hx rfl (hb hby o214_185) rfl rfl ?_
      exact k) ?_
    obtain ⟨T101, X101, e101, st101⟩ := getF X100 hx hZ hown (host := "") (Or.inl ow25) Via.refl e100 (Gp1.keep K100 nn_sx) (g := (oF_inv m 186 (oR sx) (oR el) (oi 0) (oi 1) (oR m0) (od uy) .second (oi 1) .unset .unset .unset [(.ref sx), (.int 2), (.int 1)])) rfl rfl (hb hby o214_186)
    refine own_go st101 ?_
    refine own_go (A := oW p e below T101 (oF_inv m 203 (oR sx) (oR el) (oi 0) (oi 1) (oR m0) (od uy) .second (oi 1) .unset .unset .unset [(.double 0), (.int 1), (.ref m1)])) (fun t k => by
      refine XS.imul X101.here hx rfl (hb hby o214_189) rfl ?_
      refine XS.icmpNo X101.here hx rfl (hb hby o214_190) rfl (tlt (by decide : (1 : Int32) < (4 : Int32))).2.1 ?_
      refine XS.aloadN X101.here hx rfl (hb hby o214_193) rfl rfl ?_
      refine XS.iloadN X101.here hx rfl (hb hby o214_194) rfl ?_
      refine own_ldA X101 hx hZ e101 f100_6 ⟨by decide, by decide⟩ (v := (.ref m1)) rfl (g := (oF_inv m 195 (oR sx) (oR el) (oi 0) (oi 1) (oR m0) (od uy) .second (oi 1) .unset .unset .unset [(.int 0), (.ref el)])) rfl rfl (hb hby o214_195) _ ?_
      show oW p e below T101 (oF_inv m 196 (oR sx) (oR el) (oi 0) (oi 1) (oR m0) (od uy) .second (oi 1) .unset .unset .unset [(.ref m1)]) _
      refine XS.iload X101.here hx rfl (hb hby o214_196) rfl ?_
      refine XT.dup2 X101.here hx rfl (hb hby o214_198) rfl rfl rfl ?_
      refine own_ldD X101 hx hZ e101 V100 ⟨by decide, by decide⟩ (v := (.double FP.dconst0)) rfl (g := (oF_inv m 199 (oR sx) (oR el) (oi 0) (oi 1) (oR m0) (od uy) .second (oi 1) .unset .unset .unset [(.int 1), (.ref m1), (.int 1), (.ref m1)])) rfl rfl (hb hby o214_199) _ ?_
      refine XS.dload X101.here hx rfl (hb hby o214_200) rfl ?_
      refine XS.ddivS X101.here hx rfl (hb hby o214_202) rfl (own_f10n hPx hPy) (own_f10 hPx hPy) ?_
      exact k) ?_
    obtain ⟨T102, h102, X102, e102, W102, U102, st102⟩ := own_stD X101 hx hZ e101 V100 (j := (1 : Int32)) ⟨by decide, by decide⟩ 1 rfl (Nat.le_of_ble_eq_true rfl) (g := (oF_inv m 203 (oR sx) (oR el) (oi 0) (oi 1) (oR m0) (od uy) .second (oi 1) .unset .unset .unset [(.double 0), (.int 1), (.ref m1)])) rfl rfl (hb hby o214_203)
    refine own_go st102 ?_
    have V102 : Arv Z h102 m1 km1 .double (4 : Int32) [(.double 4607182418800017408), (.double 0), (.double FP.dconst0), (.double FP.dconst1)] (.double 0) := U102
    have f102_6 : Arv Z h102 el kel (.array .double) (2 : Int32) [(.ref m1), (.ref m0)] .null := f100_6.other W102 (od_el_m1)
    have f102_10 : Arv Z h102 i0 ki0 .double (2 : Int32) [(.double 0), (.double 0)] (.double 0) := f100_10.other W102 (od_i0_m1)
    have f102_11 : Arv Z h102 i1 ki1 .double (2 : Int32) [(.double 0), (.double 0)] (.double 0) := f100_11.other W102 (od_i1_m1)
    have f102_13 : Arv Z h102 vl kvl .double (2 : Int32) [(.double 0), (.double 0)] (.double 0) := f100_13.other W102 (od_vl_m1)
    have f102_14 : Arv Z h102 m0 km0 .double (4 : Int32) [(.double FP.dconst0), (.double ux), (.double FP.dconst1), (.double FP.dconst0)] (.double 0) := f100_14.other W102 (od_m0_m1)
    have N102 := Fr.snoc X102 N100 g_m1
    have Z102 : n0 ≤ h102.size := Nat.le_trans Z100 (Keep.of_wr W102).1
    have K102 : Keep h0 h102 [el, m0, m1, i0, i1, vl] := K100.wr W102 (Or.inl (List.mem_of_getElem? (i := 2) rfl))
    refine own_go (A := oW p e below T102 (oF_inv m 186 (oR sx) (oR el) (oi 0) (oi 1) (oR m0) (od uy) .second (oi 2) .unset .unset .unset [(.ref sx), (.int 2), (.int 2)])) (fun t k => by
      refine XS.iinc X102.here hx rfl (hb hby o214_204) rfl (l' := #[(oR sx), (oR el), (oi 0), (oi 1), (oR m0), (od uy), .second, (oi 2), .unset, .unset, .unset]) rfl ?_
      show oW p e below T102 (oF_inv m 207 (oR sx) (oR el) (oi 0) (oi 1) (oR m0) (od uy) .second (oi 2) .unset .unset .unset []) _
      refine XS.goto X102.here hx rfl (pc0 := 207) (pc' := 182) rfl (hb hby o214_207) (by decide) (by decide) ?_
      refine XS.iload X102.here hx rfl (hb hby o214_182) rfl ?_
      refine XS.iconst X102.here hx rfl (hb hby o214_184) ?_
      refine XS.aloadN X102.here hx rfl (hb hby o214_185) rfl rfl ?_
      exact k) ?_
    obtain ⟨T103, X103, e103, st103⟩ := getF X102 hx hZ hown (host := "") (Or.inl ow25) Via.refl e102 (Gp1.keep K102 nn_sx) (g := (oF_inv m 186 (oR sx) (oR el) (oi 0) (oi 1) (oR m0) (od uy) .second (oi 2) .unset .unset .unset [(.ref sx), (.int 2), (.int 2)])) rfl rfl (hb hby o214_186)
    refine own_go st103 ?_
    refine own_go (A := oW p e below T103 (oF_inv m 203 (oR sx) (oR el) (oi 0) (oi 1) (oR m0) (od uy) .second (oi 2) .unset .unset .unset [(.double 0), (.int 2), (.ref m1)])) (fun t k => by
      refine XS.imul X103.here hx rfl (hb hby o214_189) rfl ?_
      refine XS.icmpNo X103.here hx rfl (hb hby o214_190) rfl (tlt (by decide : (2 : Int32) < (4 : Int32))).2.1 ?_
      show oW p e below T103 (oF_inv m 193 (oR sx) (oR el) (oi 0) (oi 1) (oR m0) (od uy) .second (oi 2) .unset .unset .unset []) _
      refine XS.aloadN X103.here hx rfl (hb hby o214_193) rfl rfl ?_
      refine XS.iloadN X103.here hx rfl (hb hby o214_194) rfl ?_
      refine own_ldA X103 hx hZ e103 f102_6 ⟨by decide, by decide⟩ (v := (.ref m1)) rfl (g := (oF_inv m 195 (oR sx) (oR el) (oi 0) (oi 1) (oR m0) (od uy) .second (oi 2) .unset .unset .unset [(.int 0), (.ref el)])) rfl rfl (hb hby o214_195) _ ?_
      refine XS.iload X103.here hx rfl (hb hby o214_196) rfl ?_
      refine XT.dup2 X103.here hx rfl (hb hby o214_198) rfl rfl rfl ?_
      refine own_ldD X103 hx hZ e103 V102 ⟨by decide, by decide⟩ (v := (.double FP.dconst0)) rfl (g := (oF_inv m 199 (oR sx) (oR el) (oi 0) (oi 1) (oR m0) (od uy) .second (oi 2) .unset .unset .unset [(.int 2), (.ref m1), (.int 2), (.ref m1)])) rfl rfl (hb hby o214_199) _ ?_
      show oW p e below T103 (oF_inv m 200 (oR sx) (oR el) (oi 0) (oi 1) (oR m0) (od uy) .second (oi 2) .unset .unset .unset [(.double FP.dconst0), (.int 2), (.ref m1)]) _
      refine XS.dload X103.here hx rfl (hb hby o214_200) rfl ?_
      refine XS.ddivS X103.here hx rfl (hb hby o214_202) rfl (own_f10n hPx hPy) (own_f10 hPx hPy) ?_
      exact k) ?_
    obtain ⟨T104, h104, X104, e104, W104, U104, st104⟩ := own_stD X103 hx hZ e103 V102 (j := (2 : Int32)) ⟨by decide, by decide⟩ 2 rfl (Nat.le_of_ble_eq_true rfl) (g := (oF_inv m 203 (oR sx) (oR el) (oi 0) (oi 1) (oR m0) (od uy) .second (oi 2) .unset .unset .unset [(.double 0), (.int 2), (.ref m1)])) rfl rfl (hb hby o214_203)
    refine own_go st104 ?_
    have V104 : Arv Z h104 m1 km1 .double (4 : Int32) [(.double 4607182418800017408), (.double 0), (.double 0), (.double FP.dconst1)] (.double 0) := U104
    have f104_6 : Arv Z h104 el kel (.array .double) (2 : Int32) [(.ref m1), (.ref m0)] .null := f102_6.other W104 (od_el_m1)
    have f104_10 : Arv Z h104 i0 ki0 .double (2 : Int32) [(.double 0), (.double 0)] (.double 0) := f102_10.other W104 (od_i0_m1)
    have f104_11 : Arv Z h104 i1 ki1 .double (2 : Int32) [(.double 0), (.double 0)] (.double 0) := f102_11.other W104 (od_i1_m1)
    have f104_13 : Arv Z h104 vl kvl .double (2 : Int32) [(.double 0), (.double 0)] (.double 0) := f102_13.other W104 (od_vl_m1)
    have f104_14 : Arv Z h104 m0 km0 .double (4 : Int32) [(.double FP.dconst0), (.double ux), (.double FP.dconst1), (.double FP.dconst0)] (.double 0) := f102_14.other W104 (od_m0_m1)
    have N104 := Fr.snoc X104 N102 g_m1
    have Z104 : n0 ≤ h104.size := Nat.le_trans Z102 (Keep.of_wr W104).1
    have K104 : Keep h0 h104 [el, m0, m1, i0, i1, vl] := K102.wr W104 (Or.inl (List.mem_of_getElem? (i := 2) rfl))
    refine own_go (A := oW p e below T104 (oF_inv m 186 (oR sx) (oR el) (oi 0) (oi 1) (oR m0) (od uy) .second (oi 3) .unset .unset .unset [(.ref sx), (.int 2), (.int 3)])) (fun t k => by
      refine XS.iinc X104.here hx rfl (hb hby o214_204) rfl (l' := #[(oR sx), (oR el), (oi 0), (oi 1), (oR m0), (od uy), .second, (oi 3), .unset, .unset, .unset]) rfl ?_
      refine XS.goto X104.here hx rfl (pc0 := 207) (pc' := 182) rfl (hb hby o214_207) (by decide) (by decide) ?_
      refine XS.iload X104.here hx rfl (hb hby o214_182) rfl ?_
      refine XS.iconst X104.here hx rfl (hb hby o214_184) ?_
      show oW p e below T104 (oF_inv m 185 (oR sx) (oR el) (oi 0) (oi 1) (oR m0) (od uy) .second (oi 3) .unset .unset .unset [(.int 2), (.int 3)]) _
      refine XS.aloadN X104.here hx rfl (hb hby o214_185) rfl rfl ?_
      exact k) ?_
    obtain ⟨T105, X105, e105, st105⟩ := getF X104 hx hZ hown (host := "") (Or.inl ow25) Via.refl e104 (Gp1.keep K104 nn_sx) (g := (oF_inv m 186 (oR sx) (oR el) (oi 0) (oi 1) (oR m0) (od uy) .second (oi 3) .unset .unset .unset [(.ref sx), (.int 2), (.int 3)])) rfl rfl (hb hby o214_186)
    refine own_go st105 ?_
    refine own_go (A := oW p e below T105 (oF_inv m 203 (oR sx) (oR el) (oi 0) (oi 1) (oR m0) (od uy) .second (oi 3) .unset .unset .unset [(.double vy), (.int 3), (.ref m1)])) (fun t k => by
      refine XS.imul X105.here hx rfl (hb hby o214_189) rfl ?_
      refine XS.icmpNo X105.here hx rfl (hb hby o214_190) rfl (tlt (by decide : (3 : Int32) < (4 : Int32))).2.1 ?_
      refine XS.aloadN X105.here hx rfl (hb hby o214_193) rfl rfl ?_
      refine XS.iloadN X105.here hx rfl (hb hby o214_194) rfl ?_
      refine own_ldA X105 hx hZ e105 f104_6 ⟨by decide, by decide⟩ (v := (.ref m1)) rfl (g := (oF_inv m 195 (oR sx) (oR el) (oi 0) (oi 1) (oR m0) (od uy) .second (oi 3) .unset .unset .unset [(.int 0), (.ref el)])) rfl rfl (hb hby o214_195) _ ?_
      show oW p e below T105 (oF_inv m 196 (oR sx) (oR el) (oi 0) (oi 1) (oR m0) (od uy) .second (oi 3) .unset .unset .unset [(.ref m1)]) _
      refine XS.iload X105.here hx rfl (hb hby o214_196) rfl ?_
      refine XT.dup2 X105.here hx rfl (hb hby o214_198) rfl rfl rfl ?_
      refine own_ldD X105 hx hZ e105 V104 ⟨by decide, by decide⟩ (v := (.double FP.dconst1)) rfl (g := (oF_inv m 199 (oR sx) (oR el) (oi 0) (oi 1) (oR m0) (od uy) .second (oi 3) .unset .unset .unset [(.int 3), (.ref m1), (.int 3), (.ref m1)])) rfl rfl (hb hby o214_199) _ ?_
      refine XS.dload X105.here hx rfl (hb hby o214_200) rfl ?_
      refine XS.ddivS X105.here hx rfl (hb hby o214_202) rfl (own_f12n hPx hPy) (own_f12 hPx hPy) ?_
      exact k) ?_
    obtain ⟨T106, h106, X106, e106, W106, U106, st106⟩ := own_stD X105 hx hZ e105 V104 (j := (3 : Int32)) ⟨by decide, by decide⟩ 3 rfl (Nat.le_of_ble_eq_true rfl) (g := (oF_inv m 203 (oR sx) (oR el) (oi 0) (oi 1) (oR m0) (od uy) .second (oi 3) .unset .unset .unset [(.double vy), (.int 3), (.ref m1)])) rfl rfl (hb hby o214_203)
    refine own_go st106 ?_
    have V106 : Arv Z h106 m1 km1 .double (4 : Int32) [(.double 4607182418800017408), (.double 0), (.double 0), (.double vy)] (.double 0) := U106
    have f106_6 : Arv Z h106 el kel (.array .double) (2 : Int32) [(.ref m1), (.ref m0)] .null := f104_6.other W106 (od_el_m1)
    have f106_10 : Arv Z h106 i0 ki0 .double (2 : Int32) [(.double 0), (.double 0)] (.double 0) := f104_10.other W106 (od_i0_m1)
    have f106_11 : Arv Z h106 i1 ki1 .double (2 : Int32) [(.double 0), (.double 0)] (.double 0) := f104_11.other W106 (od_i1_m1)
    have f106_13 : Arv Z h106 vl kvl .double (2 : Int32) [(.double 0), (.double 0)] (.double 0) := f104_13.other W106 (od_vl_m1)
    have f106_14 : Arv Z h106 m0 km0 .double (4 : Int32) [(.double FP.dconst0), (.double ux), (.double FP.dconst1), (.double FP.dconst0)] (.double 0) := f104_14.other W106 (od_m0_m1)
    have N106 := Fr.snoc X106 N104 g_m1
    have Z106 : n0 ≤ h106.size := Nat.le_trans Z104 (Keep.of_wr W106).1
    have K106 : Keep h0 h106 [el, m0, m1, i0, i1, vl] := K104.wr W106 (Or.inl (List.mem_of_getElem? (i := 2) rfl))
    refine own_go (A := oW p e below T106 (oF_inv m 186 (oR sx) (oR el) (oi 0) (oi 1) (oR m0) (od uy) .second (oi 4) .unset .unset .unset [(.ref sx), (.int 2), (.int 4)])) (fun t k => by
      refine XS.iinc X106.here hx rfl (hb hby o214_204) rfl (l' := #[(oR sx), (oR el), (oi 0), (oi 1), (oR m0), (od uy), .second, (oi 4), .unset, .unset, .unset]) rfl ?_
      show oW p e below T106 (oF_inv m 207 (oR sx) (oR el) (oi 0) (oi 1) (oR m0) (od uy) .second (oi 4) .unset .unset .unset []) _
      refine XS.goto X106.here hx rfl (pc0 := 207) (pc' := 182) rfl (hb hby o214_207) (by decide) (by decide) ?_
      refine XS.iload X106.here hx rfl (hb hby o214_182) rfl ?_
      refine XS.iconst X106.here hx rfl (hb hby o214_184) ?_
      refine XS.aloadN X106.here hx rfl (hb hby o214_185) rfl rfl ?_
      exact k) ?_
    obtain ⟨T107, X107, e107, st107⟩ := getF X106 hx hZ hown (host := "") (Or.inl ow25) Via.refl e106 (Gp1.keep K106 nn_sx) (g := (oF_inv m 186 (oR sx) (oR el) (oi 0) (oi 1) (oR m0) (od uy) .second (oi 4) .unset .unset .unset [(.ref sx), (.int 2), (.int 4)])) rfl rfl (hb hby o214_186)
    refine own_go st107 ?_
    refine own_go (A := oW p e below T107 (oF_inv m 216 (oR sx) (oR el) (oi 0) (oi 1) (oR m0) (od uy) .second (oi 0) .unset .unset .unset [(.ref sx), (.int 0)])) (fun t k => by
      refine XS.imul X107.here hx rfl (hb hby o214_189) rfl ?_
      refine XS.icmpYes X107.here hx rfl (pc0 := 190) (pc' := 210) rfl (hb hby o214_190) rfl (flt (by decide : ¬ ((4 : Int32) < (4 : Int32)))).2.1 (by decide) (by decide) ?_
      show oW p e below T107 (oF_inv m 210 (oR sx) (oR el) (oi 0) (oi 1) (oR m0) (od uy) .second (oi 4) .unset .unset .unset []) _
      refine XS.iconst X107.here hx rfl (hb hby o214_210) ?_
      refine XS.istore X107.here hx rfl (hb hby o214_211) rfl (l' := #[(oR sx), (oR el), (oi 0), (oi 1), (oR m0), (od uy), .second, (oi 0), .unset, .unset, .unset]) rfl ?_
      refine XS.iload X107.here hx rfl (hb hby o214_213) rfl ?_
      refine XS.aloadN X107.here hx rfl (hb hby o214_215) rfl rfl ?_
      exact k) ?_
    obtain ⟨T108, X108, e108, st108⟩ := getF X107 hx hZ hown (host := "") (Or.inl ow25) Via.refl e107 (Gp1.keep K106 nn_sx) (g := (oF_inv m 216 (oR sx) (oR el) (oi 0) (oi 1) (oR m0) (od uy) .second (oi 0) .unset .unset .unset [(.ref sx), (.int 0)])) rfl rfl (hb hby o214_216)
    refine own_go st108 ?_
    refine own_go (A := oW p e below T108 (oF_inv m 216 (oR sx) (oR el) (oi 0) (oi 1) (oR m0) (od uy) .second (oi 1) (od 4607182418800017408) .second .unset [(.ref sx), (.int 1)])) (fun t k => by
      refine XS.icmpNo X108.here hx rfl (hb hby o214_219) rfl (tlt (by decide : (0 : Int32) < (2 : Int32))).2.1 ?_
      refine XS.aloadN X108.here hx rfl (hb hby o214_222) rfl rfl ?_
      show oW p e below T108 (oF_inv m 223 (oR sx) (oR el) (oi 0) (oi 1) (oR m0) (od uy) .second (oi 0) .unset .unset .unset [(.ref el)]) _
      refine XS.iload X108.here hx rfl (hb hby o214_223) rfl ?_
      refine own_ldA X108 hx hZ e108 f106_6 ⟨by decide, by decide⟩ (v := (.ref m1)) rfl (g := (oF_inv m 225 (oR sx) (oR el) (oi 0) (oi 1) (oR m0) (od uy) .second (oi 0) .unset .unset .unset [(.int 0), (.ref el)])) rfl rfl (hb hby o214_225) _ ?_
      refine XS.iloadN X108.here hx rfl (hb hby o214_226) rfl ?_
      refine own_ldD X108 hx hZ e108 V106 ⟨by decide, by decide⟩ (v := (.double 4607182418800017408)) rfl (g := (oF_inv m 227 (oR sx) (oR el) (oi 0) (oi 1) (oR m0) (od uy) .second (oi 0) .unset .unset .unset [(.int 0), (.ref m1)])) rfl rfl (hb hby o214_227) _ ?_
      refine XS.dstore X108.here hx rfl (hb hby o214_228) rfl (l' := #[(oR sx), (oR el), (oi 0), (oi 1), (oR m0), (od uy), .second, (oi 0), (od 4607182418800017408), .second, .unset]) rfl ?_
      refine XS.iload X108.here hx rfl (hb hby o214_230) rfl ?_
      show oW p e below T108 (oF_inv m 232 (oR sx) (oR el) (oi 0) (oi 1) (oR m0) (od uy) .second (oi 0) (od 4607182418800017408) .second .unset [(.int 0)]) _
      refine XS.iloadN X108.here hx rfl (hb hby o214_232) rfl ?_
      refine XS.icmpYes X108.here hx rfl (pc0 := 233) (pc' := 282) rfl (hb hby o214_233) rfl (teq (by decide : (0 : Int32) = (0 : Int32))).1 (by decide) (by decide) ?_
      refine XS.iinc X108.here hx rfl (hb hby o214_282) rfl (l' := #[(oR sx), (oR el), (oi 0), (oi 1), (oR m0), (od uy), .second, (oi 1), (od 4607182418800017408), .second, .unset]) rfl ?_
      refine XS.goto X108.here hx rfl (pc0 := 285) (pc' := 213) rfl (hb hby o214_285) (by decide) (by decide) ?_
      refine XS.iload X108.here hx rfl (hb hby o214_213) rfl ?_
      refine XS.aloadN X108.here hx rfl (hb hby o214_215) rfl rfl ?_
      exact k) ?_
    obtain ⟨T109, X109, e109, st109⟩ := getF X108 hx hZ hown (host := "") (Or.inl ow25) Via.refl e108 (Gp1.keep K106 nn_sx) (g := (oF_inv m 216 (oR sx) (oR el) (oi 0) (oi 1) (oR m0) (od uy) .second (oi 1) (od 4607182418800017408) .second .unset [(.ref sx), (.int 1)])) rfl rfl (hb hby o214_216)
    refine own_go st109 ?_
    refine own_go (A := oW p e below T109 (oF_inv m 216 (oR sx) (oR el) (oi 0) (oi 1) (oR m0) (od uy) .second (oi 2) (od FP.dconst0) .second .unset [(.ref sx), (.int 2)])) (fun t k => by
      refine XS.icmpNo X109.here hx rfl (hb hby o214_219) rfl (tlt (by decide : (1 : Int32) < (2 : Int32))).2.1 ?_
      refine XS.aloadN X109.here hx rfl (hb hby o214_222) rfl rfl ?_
      refine XS.iload X109.here hx rfl (hb hby o214_223) rfl ?_
      refine own_ldA X109 hx hZ e109 f106_6 ⟨by decide, by decide⟩ (v := (.ref m0)) rfl (g := (oF_inv m 225 (oR sx) (oR el) (oi 0) (oi 1) (oR m0) (od uy) .second (oi 1) (od 4607182418800017408) .second .unset [(.int 1), (.ref el)])) rfl rfl (hb hby o214_225) _ ?_
      refine XS.iloadN X109.here hx rfl (hb hby o214_226) rfl ?_
      refine own_ldD X109 hx hZ e109 f106_14 ⟨by decide, by decide⟩ (v := (.double FP.dconst0)) rfl (g := (oF_inv m 227 (oR sx) (oR el) (oi 0) (oi 1) (oR m0) (od uy) .second (oi 1) (od 4607182418800017408) .second .unset [(.int 0), (.ref m0)])) rfl rfl (hb hby o214_227) _ ?_
      show oW p e below T109 (oF_inv m 228 (oR sx) (oR el) (oi 0) (oi 1) (oR m0) (od uy) .second (oi 1) (od 4607182418800017408) .second .unset [(.double FP.dconst0)]) _
      refine XS.dstore X109.here hx rfl (hb hby o214_228) rfl (l' := #[(oR sx), (oR el), (oi 0), (oi 1), (oR m0), (od uy), .second, (oi 1), (od FP.dconst0), .second, .unset]) rfl ?_
      refine XS.iload X109.here hx rfl (hb hby o214_230) rfl ?_
      refine XS.iloadN X109.here hx rfl (hb hby o214_232) rfl ?_
      refine XS.icmpNo X109.here hx rfl (hb hby o214_233) rfl (feq (by decide : ¬ ((1 : Int32) = (0 : Int32)))).1 ?_
      refine XS.dload X109.here hx rfl (hb hby o214_236) rfl ?_
      refine XS.dconst0 X109.here hx rfl (hb hby o214_238) rfl ?_
      show oW p e below T109 (oF_inv m 239 (oR sx) (oR el) (oi 0) (oi 1) (oR m0) (od uy) .second (oi 1) (od FP.dconst0) .second .unset [(.double FP.dconst0), (.double FP.dconst0)]) _
      refine XS.dcmpS X109.here hx rfl (hb hby o214_239) rfl (own_f7 hPx hPy) ?_
      refine XS.ifYes X109.here hx rfl (pc0 := 240) (pc' := 282) rfl (hb hby o214_240) rfl ((if0 _ _).trans (teq (by decide : (0 : Int32) = (0 : Int32))).1) (by decide) (by decide) ?_
      refine XS.iinc X109.here hx rfl (hb hby o214_282) rfl (l' := #[(oR sx), (oR el), (oi 0), (oi 1), (oR m0), (od uy), .second, (oi 2), (od FP.dconst0), .second, .unset]) rfl ?_
      refine XS.goto X109.here hx rfl (pc0 := 285) (pc' := 213) rfl (hb hby o214_285) (by decide) (by decide) ?_
      refine XS.iload X109.here hx rfl (hb hby o214_213) rfl ?_
      refine XS.aloadN X109.here hx rfl (hb hby o214_215) rfl rfl ?_
      exact k) ?_
    obtain ⟨T110, X110, e110, st110⟩ := getF X109 hx hZ hown (host := "") (Or.inl ow25) Via.refl e109 (Gp1.keep K106 nn_sx) (g := (oF_inv m 216 (oR sx) (oR el) (oi 0) (oi 1) (oR m0) (od uy) .second (oi 2) (od FP.dconst0) .second .unset [(.ref sx), (.int 2)])) rfl rfl (hb hby o214_216)
    refine own_go st110 ?_
    refine own_go (A := oW p e below T110 (oF_inv m 87 (oR sx) (oR el) (oi 1) (oi 1) (oR m0) (od uy) .second (oi 2) (od FP.dconst0) .second .unset [(.ref sx), (.int 1)])) (fun t k => by
      refine XS.icmpYes X110.here hx rfl (pc0 := 219) (pc' := 288) rfl (hb hby o214_219) rfl (flt (by decide : ¬ ((2 : Int32) < (2 : Int32)))).2.1 (by decide) (by decide) ?_
      refine XS.iinc X110.here hx rfl (hb hby o214_288) rfl (l' := #[(oR sx), (oR el), (oi 1), (oi 1), (oR m0), (od uy), .second, (oi 2), (od FP.dconst0), .second, .unset]) rfl ?_
      refine XS.goto X110.here hx rfl (pc0 := 291) (pc' := 85) rfl (hb hby o214_291) (by decide) (by decide) ?_
      refine XS.iloadN X110.here hx rfl (hb hby o214_85) rfl ?_
      refine XS.aloadN X110.here hx rfl (hb hby o214_86) rfl rfl ?_
      exact k) ?_
    obtain ⟨T111, X111, e111, st111⟩ := getF X110 hx hZ hown (host := "") (Or.inl ow25) Via.refl e110 (Gp1.keep K106 nn_sx) (g := (oF_inv m 87 (oR sx) (oR el) (oi 1) (oi 1) (oR m0) (od uy) .second (oi 2) (od FP.dconst0) .second .unset [(.ref sx), (.int 1)])) rfl rfl (hb hby o214_87)
    refine own_go st111 ?_
    refine own_go (A := oW p e below T111 (oF_inv m 103 (oR sx) (oR el) (oi 1) (oi 1) (oi 2) (od uy) .second (oi 2) (od FP.dconst0) .second .unset [(.ref sx), (.int 2)])) (fun t k => by
      refine XS.icmpNo X111.here hx rfl (hb hby o214_90) rfl (tlt (by decide : (1 : Int32) < (2 : Int32))).2.1 ?_
      show oW p e below T111 (oF_inv m 93 (oR sx) (oR el) (oi 1) (oi 1) (oR m0) (od uy) .second (oi 2) (od FP.dconst0) .second .unset []) _
      refine XS.iloadN X111.here hx rfl (hb hby o214_93) rfl ?_
      refine XS.istoreN X111.here hx rfl (hb hby o214_94) rfl (l' := #[(oR sx), (oR el), (oi 1), (oi 1), (oR m0), (od uy), .second, (oi 2), (od FP.dconst0), .second, .unset]) rfl ?_
      refine XS.iloadN X111.here hx rfl (hb hby o214_95) rfl ?_
      refine XS.iconst X111.here hx rfl (hb hby o214_96) ?_
      refine XS.iadd X111.here hx rfl (hb hby o214_97) rfl ?_
      refine XS.istore X111.here hx rfl (hb hby o214_98) rfl (l' := #[(oR sx), (oR el), (oi 1), (oi 1), (oi 2), (od uy), .second, (oi 2), (od FP.dconst0), .second, .unset]) rfl ?_
      show oW p e below T111 (oF_inv m 100 (oR sx) (oR el) (oi 1) (oi 1) (oi 2) (od uy) .second (oi 2) (od FP.dconst0) .second .unset []) _
      refine XS.iload X111.here hx rfl (hb hby o214_100) rfl ?_
      refine XS.aloadN X111.here hx rfl (hb hby o214_102) rfl rfl ?_
      exact k) ?_
    obtain ⟨T112, X112, e112, st112⟩ := getF X111 hx hZ hown (host := "") (Or.inl ow25) Via.refl e111 (Gp1.keep K106 nn_sx) (g := (oF_inv m 103 (oR sx) (oR el) (oi 1) (oi 1) (oi 2) (od uy) .second (oi 2) (od FP.dconst0) .second .unset [(.ref sx), (.int 2)])) rfl rfl (hb hby o214_103)
    refine own_go st112 ?_
    refine own_go (A := oW p e below T112 (oF_inv m 144 (oR sx) (oR el) (oi 1) (oi 1) (oi 2) (od uy) .second (oi 2) (od FP.dconst0) .second .unset [(.double ux)])) (fun t k => by
      refine XS.icmpYes X112.here hx rfl (pc0 := 106) (pc' := 139) rfl (hb hby o214_106) rfl (flt (by decide : ¬ ((2 : Int32) < (2 : Int32)))).2.1 (by decide) (by decide) ?_
      refine XS.aloadN X112.here hx rfl (hb hby o214_139) rfl rfl ?_
      refine XS.iloadN X112.here hx rfl (hb hby o214_140) rfl ?_
      refine own_ldA X112 hx hZ e112 f106_6 ⟨by decide, by decide⟩ (v := (.ref m0)) rfl (g := (oF_inv m 141 (oR sx) (oR el) (oi 1) (oi 1) (oi 2) (od uy) .second (oi 2) (od FP.dconst0) .second .unset [(.int 1), (.ref el)])) rfl rfl (hb hby o214_141) _ ?_
      show oW p e below T112 (oF_inv m 142 (oR sx) (oR el) (oi 1) (oi 1) (oi 2) (od uy) .second (oi 2) (od FP.dconst0) .second .unset [(.ref m0)]) _
      refine XS.iloadN X112.here hx rfl (hb hby o214_142) rfl ?_
      refine own_ldD X112 hx hZ e112 f106_14 ⟨by decide, by decide⟩ (v := (.double ux)) rfl (g := (oF_inv m 143 (oR sx) (oR el) (oi 1) (oi 1) (oi 2) (od uy) .second (oi 2) (od FP.dconst0) .second .unset [(.int 1), (.ref m0)])) rfl rfl (hb hby o214_143) _ ?_
      exact k) ?_
    obtain ⟨_, vm113, B113, -, X113q, ⟨hr113, hB113⟩, st113⟩ := Jvm.LawKit.callS X112 hx (y := (⟨"java/lang/Math", "abs", "(D)D"⟩ : MethodName)) hown (mvT hZ ow76) (mvT hZ ow77) (mvT hZ ow78) (mvT hZ ow79) (by decide) (Jvm.Free.Fl.Abs.absD_pays (W := 0) ux (mvT hZ ow79) (by decide) (by decide)) (g := (oF_inv m 144 (oR sx) (oR el) (oi 1) (oi 1) (oi 2) (od uy) .second (oi 2) (od FP.dconst0) .second .unset [(.double ux)])) rfl (by rw [hml]; rfl) (argsL := [(.double ux)]) (rest := []) (lenOf own_pd_28D29D rfl) rfl (by show 2 * 0 + _ ≤ _; exact Nat.le_of_eq rfl) (hb hby o214_144) (fun _ _ => ⟨(by decide : 0 ≤ _), (by decide : 0 ≤ _), rfl, (own_s1 hPx hPy)⟩)
    subst hB113; subst hr113
    obtain ⟨T113, eT113⟩ : ∃ z, z = T112.setVm vm113 := ⟨_, rfl⟩
    dsimp only [Pt.U, Pt.locs, Pt.cells, Pt.slots] at X113q st113
    rw [← eT113] at X113q st113
    have X113 := X113q
    have e113 : T113.heap = h106 := by rw [eT113]; exact e112
    rw [own_f1 hPx hPy] at st113
    refine own_go st113 ?_
    refine own_go (A := oW p e below T113 (oF_inv m 166 (oR sx) (oR el) (oi 1) (oi 1) (oR m0) (od uy) .second (oi 2) (od FP.dconst0) .second .unset [(.ref m0), (.int 1), (.ref el)])) (fun t k => by
      refine X113.ldc2DoubleC hx hown (mvT hZ ow80) (g := (oF_inv m 147 (oR sx) (oR el) (oi 1) (oi 1) (oi 2) (od uy) .second (oi 2) (od FP.dconst0) .second .unset [(.double ux)])) rfl (hb hby o214_147) _ ?_
      refine XS.dcmpS X113.here hx rfl (hb hby o214_150) rfl (own_f3 hPx hPy) ?_
      refine XS.ifYes X113.here hx rfl (pc0 := 151) (pc' := 156) rfl (hb hby o214_151) rfl ((if0 _ _).trans (tlt (by decide : (0 : Int32) < (1 : Int32))).2.2.1) (by decide) (by decide) ?_
      refine XS.aloadN X113.here hx rfl (hb hby o214_156) rfl rfl ?_
      show oW p e below T113 (oF_inv m 157 (oR sx) (oR el) (oi 1) (oi 1) (oi 2) (od uy) .second (oi 2) (od FP.dconst0) .second .unset [(.ref el)]) _
      refine XS.iloadN X113.here hx rfl (hb hby o214_157) rfl ?_
      refine own_ldA X113 hx hZ e113 f106_6 ⟨by decide, by decide⟩ (v := (.ref m0)) rfl (g := (oF_inv m 158 (oR sx) (oR el) (oi 1) (oi 1) (oi 2) (od uy) .second (oi 2) (od FP.dconst0) .second .unset [(.int 1), (.ref el)])) rfl rfl (hb hby o214_158) _ ?_
      refine XS.astore X113.here hx rfl (hb hby o214_159) rfl rfl (l' := #[(oR sx), (oR el), (oi 1), (oi 1), (oR m0), (od uy), .second, (oi 2), (od FP.dconst0), .second, .unset]) rfl ?_
      refine XS.aloadN X113.here hx rfl (hb hby o214_161) rfl rfl ?_
      refine XS.iloadN X113.here hx rfl (hb hby o214_162) rfl ?_
      refine XS.aloadN X113.here hx rfl (hb hby o214_163) rfl rfl ?_
      show oW p e below T113 (oF_inv m 164 (oR sx) (oR el) (oi 1) (oi 1) (oR m0) (od uy) .second (oi 2) (od FP.dconst0) .second .unset [(.ref el), (.int 1), (.ref el)]) _
      refine XS.iloadN X113.here hx rfl (hb hby o214_164) rfl ?_
      refine own_ldA X113 hx hZ e113 f106_6 ⟨by decide, by decide⟩ (v := (.ref m0)) rfl (g := (oF_inv m 165 (oR sx) (oR el) (oi 1) (oi 1) (oR m0) (od uy) .second (oi 2) (od FP.dconst0) .second .unset [(.int 1), (.ref el), (.int 1), (.ref el)])) rfl rfl (hb hby o214_165) _ ?_
      exact k) ?_
    obtain ⟨cl114, Ar114, q114, S114, N114, H114, G114⟩ := id (f106_6)
    have hi114 : ¬ ((1 : Int32) < 0 ∨ cl114.slots.size ≤ ((1 : Int32)).toNatClampNeg) := inb_of S114 ⟨by decide, by decide⟩
    obtain ⟨T115, h115, X115, e115, W115, st115⟩ := stR X113 hx hZ e113 Ar114 (j := (1 : Int32)) hi114 rfl (Sto.ofVA Ar114 q114 Oel (Ins.self (Gp15.keep K106))) (g := (oF_inv m 166 (oR sx) (oR el) (oi 1) (oi 1) (oR m0) (od uy) .second (oi 2) (od FP.dconst0) .second .unset [(.ref m0), (.int 1), (.ref el)])) rfl rfl (hb hby o214_166)
    refine own_go st115 ?_
    have V115 : Arv Z h115 el kel (.array .double) (2 : Int32) [(.ref m1), (.ref m0)] .null := Arv.set Ar114 q114 S114 N114 H114 G114 rfl W115 1 rfl (Nat.le_of_ble_eq_true rfl)
    have f115_6 : Arv Z h115 el kel (.array .double) (2 : Int32) [(.ref m1), (.ref m0)] .null := V115
    have f115_10 : Arv Z h115 i0 ki0 .double (2 : Int32) [(.double 0), (.double 0)] (.double 0) := f106_10.other W115 (od_i0_el)
    have f115_11 : Arv Z h115 i1 ki1 .double (2 : Int32) [(.double 0), (.double 0)] (.double 0) := f106_11.other W115 (od_i1_el)
    have f115_13 : Arv Z h115 vl kvl .double (2 : Int32) [(.double 0), (.double 0)] (.double 0) := f106_13.other W115 (od_vl_el)
    have f115_14 : Arv Z h115 m0 km0 .double (4 : Int32) [(.double FP.dconst0), (.double ux), (.double FP.dconst1), (.double FP.dconst0)] (.double 0) := f106_14.other W115 (od_el_m0.symm)
    have f115_15 : Arv Z h115 m1 km1 .double (4 : Int32) [(.double 4607182418800017408), (.double 0), (.double 0), (.double vy)] (.double 0) := V106.other W115 (od_el_m1.symm)
    have N115 := Fr.snoc X115 N106 g_el
    have Z115 : n0 ≤ h115.size := Nat.le_trans Z106 (Keep.of_wr W115).1
    have K115 : Keep h0 h115 [el, m0, m1, i0, i1, vl] := K106.wr W115 (Or.inl (List.mem_of_getElem? (i := 0) rfl))
    refine own_go (A := oW p e below T115 (oF_inv m 171 (oR sx) (oR el) (oi 1) (oi 1) (oR m0) (od uy) .second (oi 2) (od FP.dconst0) .second .unset [(.ref m0), (.int 1), (.ref el)])) (fun t k => by
      refine XS.aloadN X115.here hx rfl (hb hby o214_167) rfl rfl ?_
      refine XS.iloadN X115.here hx rfl (hb hby o214_168) rfl ?_
      refine XS.aload X115.here hx rfl (hb hby o214_169) rfl rfl ?_
      exact k) ?_
    obtain ⟨cl116, Ar116, q116, S116, N116, H116, G116⟩ := id (f115_6)
    have hi116 : ¬ ((1 : Int32) < 0 ∨ cl116.slots.size ≤ ((1 : Int32)).toNatClampNeg) := inb_of S116 ⟨by decide, by decide⟩
    obtain ⟨T117, h117, X117, e117, W117, st117⟩ := stR X115 hx hZ e115 Ar116 (j := (1 : Int32)) hi116 rfl (Sto.ofVA Ar116 q116 Oel (Ins.self (Gp15.keep K115))) (g := (oF_inv m 171 (oR sx) (oR el) (oi 1) (oi 1) (oR m0) (od uy) .second (oi 2) (od FP.dconst0) .second .unset [(.ref m0), (.int 1), (.ref el)])) rfl rfl (hb hby o214_171)
    refine own_go st117 ?_
    have V117 : Arv Z h117 el kel (.array .double) (2 : Int32) [(.ref m1), (.ref m0)] .null := Arv.set Ar116 q116 S116 N116 H116 G116 rfl W117 1 rfl (Nat.le_of_ble_eq_true rfl)
    have f117_6 : Arv Z h117 el kel (.array .double) (2 : Int32) [(.ref m1), (.ref m0)] .null := V117
    have f117_10 : Arv Z h117 i0 ki0 .double (2 : Int32) [(.double 0), (.double 0)] (.double 0) := f115_10.other W117 (od_i0_el)
    have f117_11 : Arv Z h117 i1 ki1 .double (2 : Int32) [(.double 0), (.double 0)] (.double 0) := f115_11.other W117 (od_i1_el)
    have f117_13 : Arv Z h117 vl kvl .double (2 : Int32) [(.double 0), (.double 0)] (.double 0) := f115_13.other W117 (od_vl_el)
    have f117_14 : Arv Z h117 m0 km0 .double (4 : Int32) [(.double FP.dconst0), (.double ux), (.double FP.dconst1), (.double FP.dconst0)] (.double 0) := f115_14.other W117 (od_el_m0.symm)
    have f117_15 : Arv Z h117 m1 km1 .double (4 : Int32) [(.double 4607182418800017408), (.double 0), (.double 0), (.double vy)] (.double 0) := f115_15.other W117 (od_el_m1.symm)
    have N117 := Fr.snoc X117 N115 g_el
    have Z117 : n0 ≤ h117.size := Nat.le_trans Z115 (Keep.of_wr W117).1
    have K117 : Keep h0 h117 [el, m0, m1, i0, i1, vl] := K115.wr W117 (Or.inl (List.mem_of_getElem? (i := 0) rfl))
    refine own_go (A := oW p e below T117 (oF_inv m 186 (oR sx) (oR el) (oi 1) (oi 1) (oR m0) (od ux) .second (oi 0) (od FP.dconst0) .second .unset [(.ref sx), (.int 2), (.int 0)])) (fun t k => by
      refine XS.aloadN X117.here hx rfl (hb hby o214_172) rfl rfl ?_
      show oW p e below T117 (oF_inv m 173 (oR sx) (oR el) (oi 1) (oi 1) (oR m0) (od uy) .second (oi 2) (od FP.dconst0) .second .unset [(.ref el)]) _
      refine XS.iloadN X117.here hx rfl (hb hby o214_173) rfl ?_
      refine own_ldA X117 hx hZ e117 f117_6 ⟨by decide, by decide⟩ (v := (.ref m0)) rfl (g := (oF_inv m 174 (oR sx) (oR el) (oi 1) (oi 1) (oR m0) (od uy) .second (oi 2) (od FP.dconst0) .second .unset [(.int 1), (.ref el)])) rfl rfl (hb hby o214_174) _ ?_
      refine XS.iloadN X117.here hx rfl (hb hby o214_175) rfl ?_
      refine own_ldD X117 hx hZ e117 f117_14 ⟨by decide, by decide⟩ (v := (.double ux)) rfl (g := (oF_inv m 176 (oR sx) (oR el) (oi 1) (oi 1) (oR m0) (od uy) .second (oi 2) (od FP.dconst0) .second .unset [(.int 1), (.ref m0)])) rfl rfl (hb hby o214_176) _ ?_
      refine XS.dstore X117.here hx rfl (hb hby o214_177) rfl (l' := #[(oR sx), (oR el), (oi 1), (oi 1), (oR m0), (od ux), .second, (oi 2), (od FP.dconst0), .second, .unset]) rfl ?_
      refine XS.iconst X117.here hx rfl (hb hby o214_179) ?_
      show oW p e below T117 (oF_inv m 180 (oR sx) (oR el) (oi 1) (oi 1) (oR m0) (od ux) .second (oi 2) (od FP.dconst0) .second .unset [(.int 0)]) _
      refine XS.istore X117.here hx rfl (hb hby o214_180) rfl (l' := #[(oR sx), (oR el), (oi 1), (oi 1), (oR m0), (od ux), .second, (oi 0), (od FP.dconst0), .second, .unset]) rfl ?_
      refine XS.iload X117.here hx rfl (hb hby o214_182) rfl ?_
      refine XS.iconst X117.here hx rfl (hb hby o214_184) ?_
      refine XS.aloadN X117.here hx rfl (hb hby o214_185) rfl rfl ?_
      exact k) ?_
    obtain ⟨T118, X118, e118, st118⟩ := getF X117 hx hZ hown (host := "") (Or.inl ow25) Via.refl e117 (Gp1.keep K117 nn_sx) (g := (oF_inv m 186 (oR sx) (oR el) (oi 1) (oi 1) (oR m0) (od ux) .second (oi 0) (od FP.dconst0) .second .unset [(.ref sx), (.int 2), (.int 0)])) rfl rfl (hb hby o214_186)
    refine own_go st118 ?_
    refine own_go (A := oW p e below T118 (oF_inv m 203 (oR sx) (oR el) (oi 1) (oi 1) (oR m0) (od ux) .second (oi 0) (od FP.dconst0) .second .unset [(.double 0), (.int 0), (.ref m0)])) (fun t k => by
      refine XS.imul X118.here hx rfl (hb hby o214_189) rfl ?_
      refine XS.icmpNo X118.here hx rfl (hb hby o214_190) rfl (tlt (by decide : (0 : Int32) < (4 : Int32))).2.1 ?_
      show oW p e below T118 (oF_inv m 193 (oR sx) (oR el) (oi 1) (oi 1) (oR m0) (od ux) .second (oi 0) (od FP.dconst0) .second .unset []) _
      refine XS.aloadN X118.here hx rfl (hb hby o214_193) rfl rfl ?_
      refine XS.iloadN X118.here hx rfl (hb hby o214_194) rfl ?_
      refine own_ldA X118 hx hZ e118 f117_6 ⟨by decide, by decide⟩ (v := (.ref m0)) rfl (g := (oF_inv m 195 (oR sx) (oR el) (oi 1) (oi 1) (oR m0) (od ux) .second (oi 0) (od FP.dconst0) .second .unset [(.int 1), (.ref el)])) rfl rfl (hb hby o214_195) _ ?_
      refine XS.iload X118.here hx rfl (hb hby o214_196) rfl ?_
      refine XT.dup2 X118.here hx rfl (hb hby o214_198) rfl rfl rfl ?_
      refine own_ldD X118 hx hZ e118 f117_14 ⟨by decide, by decide⟩ (v := (.double FP.dconst0)) rfl (g := (oF_inv m 199 (oR sx) (oR el) (oi 1) (oi 1) (oR m0) (od ux) .second (oi 0) (od FP.dconst0) .second .unset [(.int 0), (.ref m0), (.int 0), (.ref m0)])) rfl rfl (hb hby o214_199) _ ?_
      show oW p e below T118 (oF_inv m 200 (oR sx) (oR el) (oi 1) (oi 1) (oR m0) (od ux) .second (oi 0) (od FP.dconst0) .second .unset [(.double FP.dconst0), (.int 0), (.ref m0)]) _
      refine XS.dload X118.here hx rfl (hb hby o214_200) rfl ?_
      refine XS.ddivS X118.here hx rfl (hb hby o214_202) rfl (own_f5n hPx hPy) (own_f5 hPx hPy) ?_
      exact k) ?_
    obtain ⟨T119, h119, X119, e119, W119, U119, st119⟩ := own_stD X118 hx hZ e118 f117_14 (j := (0 : Int32)) ⟨by decide, by decide⟩ 0 rfl (Nat.le_of_ble_eq_true rfl) (g := (oF_inv m 203 (oR sx) (oR el) (oi 1) (oi 1) (oR m0) (od ux) .second (oi 0) (od FP.dconst0) .second .unset [(.double 0), (.int 0), (.ref m0)])) rfl rfl (hb hby o214_203)
    refine own_go st119 ?_
    have V119 : Arv Z h119 m0 km0 .double (4 : Int32) [(.double 0), (.double ux), (.double FP.dconst1), (.double FP.dconst0)] (.double 0) := U119
    have f119_6 : Arv Z h119 el kel (.array .double) (2 : Int32) [(.ref m1), (.ref m0)] .null := f117_6.other W119 (od_el_m0)
    have f119_10 : Arv Z h119 i0 ki0 .double (2 : Int32) [(.double 0), (.double 0)] (.double 0) := f117_10.other W119 (od_i0_m0)
    have f119_11 : Arv Z h119 i1 ki1 .double (2 : Int32) [(.double 0), (.double 0)] (.double 0) := f117_11.other W119 (od_i1_m0)
    have f119_13 : Arv Z h119 vl kvl .double (2 : Int32) [(.double 0), (.double 0)] (.double 0) := f117_13.other W119 (od_vl_m0)
    have f119_15 : Arv Z h119 m1 km1 .double (4 : Int32) [(.double 4607182418800017408), (.double 0), (.double 0), (.double vy)] (.double 0) := f117_15.other W119 (od_m0_m1.symm)
    have N119 := Fr.snoc X119 N117 g_m0
    have Z119 : n0 ≤ h119.size := Nat.le_trans Z117 (Keep.of_wr W119).1
    have K119 : Keep h0 h119 [el, m0, m1, i0, i1, vl] := K117.wr W119 (Or.inl (List.mem_of_getElem? (i := 1) rfl))
    refine own_go (A := oW p e below T119 (oF_inv m 186 (oR sx) (oR el) (oi 1) (oi 1) (oR m0) (od ux) .second (oi 1) (od FP.dconst0) .second .unset [(.ref sx), (.int 2), (.int 1)])) (fun t k => by
      refine XS.iinc X119.here hx rfl (hb hby o214_204) rfl (l' := #[(oR sx), (oR el), (oi 1), (oi 1), (oR m0), (od ux), .second, (oi 1), (od FP.dconst0), .second, .unset]) rfl ?_
      refine XS.goto X119.here hx rfl (pc0 := 207) (pc' := 182) rfl (hb hby o214_207) (by decide) (by decide) ?_
      refine XS.iload X119.here hx rfl (hb hby o214_182) rfl ?_
      refine XS.iconst X119.here hx rfl (hb hby o214_184) ?_
      show oW p e below T119 (oF_inv m 185 (oR sx) (oR el) (oi 1) (oi 1) (oR m0) (od ux) .second (oi 1) (od FP.dconst0) .second .unset [(.int 2), (.int 1)]) _
      refine XS.aloadN X119.here hx rfl (hb hby o214_185) rfl rfl ?_
      exact k) ?_
    obtain ⟨T120, X120, e120, st120⟩ := getF X119 hx hZ hown (host := "") (Or.inl ow25) Via.refl e119 (Gp1.keep K119 nn_sx) (g := (oF_inv m 186 (oR sx) (oR el) (oi 1) (oi 1) (oR m0) (od ux) .second (oi 1) (od FP.dconst0) .second .unset [(.ref sx), (.int 2), (.int 1)])) rfl rfl (hb hby o214_186)
    refine own_go st120 ?_
    refine own_go (A := oW p e below T120 (oF_inv m 203 (oR sx) (oR el) (oi 1) (oi 1) (oR m0) (od ux) .second (oi 1) (od FP.dconst0) .second .unset [(.double 4607182418800017408), (.int 1), (.ref m0)])) (fun t k => by
      refine XS.imul X120.here hx rfl (hb hby o214_189) rfl ?_
      refine XS.icmpNo X120.here hx rfl (hb hby o214_190) rfl (tlt (by decide : (1 : Int32) < (4 : Int32))).2.1 ?_
      refine XS.aloadN X120.here hx rfl (hb hby o214_193) rfl rfl ?_
      refine XS.iloadN X120.here hx rfl (hb hby o214_194) rfl ?_
      refine own_ldA X120 hx hZ e120 f119_6 ⟨by decide, by decide⟩ (v := (.ref m0)) rfl (g := (oF_inv m 195 (oR sx) (oR el) (oi 1) (oi 1) (oR m0) (od ux) .second (oi 1) (od FP.dconst0) .second .unset [(.int 1), (.ref el)])) rfl rfl (hb hby o214_195) _ ?_
      show oW p e below T120 (oF_inv m 196 (oR sx) (oR el) (oi 1) (oi 1) (oR m0) (od ux) .second (oi 1) (od FP.dconst0) .second .unset [(.ref m0)]) _
      refine XS.iload X120.here hx rfl (hb hby o214_196) rfl ?_
      refine XT.dup2 X120.here hx rfl (hb hby o214_198) rfl rfl rfl ?_
      refine own_ldD X120 hx hZ e120 V119 ⟨by decide, by decide⟩ (v := (.double ux)) rfl (g := (oF_inv m 199 (oR sx) (oR el) (oi 1) (oi 1) (oR m0) (od ux) .second (oi 1) (od FP.dconst0) .second .unset [(.int 1), (.ref m0), (.int 1), (.ref m0)])) rfl rfl (hb hby o214_199) _ ?_
      refine XS.dload X120.here hx rfl (hb hby o214_200) rfl ?_
      refine XS.ddivS X120.here hx rfl (hb hby o214_202) rfl (own_f4n hPx hPy) (own_f4 hPx hPy) ?_
      exact k) ?_
    obtain ⟨T121, h121, X121, e121, W121, U121, st121⟩ := own_stD X120 hx hZ e120 V119 (j := (1 : Int32)) ⟨by decide, by decide⟩ 1 rfl (Nat.le_of_ble_eq_true rfl) (g := (oF_inv m 203 (oR sx) (oR el) (oi 1) (oi 1) (oR m0) (od ux) .second (oi 1) (od FP.dconst0) .second .unset [(.double 4607182418800017408), (.int 1), (.ref m0)])) rfl rfl (hb hby o214_203)
    refine own_go st121 ?_
    have V121 : Arv Z h121 m0 km0 .double (4 : Int32) [(.double 0), (.double 4607182418800017408), (.double FP.dconst1), (.double FP.dconst0)] (.double 0) := U121
    have f121_6 : Arv Z h121 el kel (.array .double) (2 : Int32) [(.ref m1), (.ref m0)] .null := f119_6.other W121 (od_el_m0)
    have f121_10 : Arv Z h121 i0 ki0 .double (2 : Int32) [(.double 0), (.double 0)] (.double 0) := f119_10.other W121 (od_i0_m0)
    have f121_11 : Arv Z h121 i1 ki1 .double (2 : Int32) [(.double 0), (.double 0)] (.double 0) := f119_11.other W121 (od_i1_m0)
    have f121_13 : Arv Z h121 vl kvl .double (2 : Int32) [(.double 0), (.double 0)] (.double 0) := f119_13.other W121 (od_vl_m0)
    have f121_14 : Arv Z h121 m1 km1 .double (4 : Int32) [(.double 4607182418800017408), (.double 0), (.double 0), (.double vy)] (.double 0) := f119_15.other W121 (od_m0_m1.symm)
    have N121 := Fr.snoc X121 N119 g_m0
    have Z121 : n0 ≤ h121.size := Nat.le_trans Z119 (Keep.of_wr W121).1
    have K121 : Keep h0 h121 [el, m0, m1, i0, i1, vl] := K119.wr W121 (Or.inl (List.mem_of_getElem? (i := 1) rfl))
    refine own_go (A := oW p e below T121 (oF_inv m 186 (oR sx) (oR el) (oi 1) (oi 1) (oR m0) (od ux) .second (oi 2) (od FP.dconst0) .second .unset [(.ref sx), (.int 2), (.int 2)])) (fun t k => by
      refine XS.iinc X121.here hx rfl (hb hby o214_204) rfl (l' := #[(oR sx), (oR el), (oi 1), (oi 1), (oR m0), (od ux), .second, (oi 2), (od FP.dconst0), .second, .unset]) rfl ?_
      show oW p e below T121 (oF_inv m 207 (oR sx) (oR el) (oi 1) (oi 1) (oR m0) (od ux) .second (oi 2) (od FP.dconst0) .second .unset []) _
      refine XS.goto X121.here hx rfl (pc0 := 207) (pc' := 182) rfl (hb hby o214_207) (by decide) (by decide) ?_
      refine XS.iload X121.here hx rfl (hb hby o214_182) rfl ?_
      refine XS.iconst X121.here hx rfl (hb hby o214_184) ?_
      refine XS.aloadN X121.here hx rfl (hb hby o214_185) rfl rfl ?_
      exact k) ?_
    obtain ⟨T122, X122, e122, st122⟩ := getF X121 hx hZ hown (host := "") (Or.inl ow25) Via.refl e121 (Gp1.keep K121 nn_sx) (g := (oF_inv m 186 (oR sx) (oR el) (oi 1) (oi 1) (oR m0) (od ux) .second (oi 2) (od FP.dconst0) .second .unset [(.ref sx), (.int 2), (.int 2)])) rfl rfl (hb hby o214_186)
    refine own_go st122 ?_
    refine own_go (A := oW p e below T122 (oF_inv m 203 (oR sx) (oR el) (oi 1) (oi 1) (oR m0) (od ux) .second (oi 2) (od FP.dconst0) .second .unset [(.double vx), (.int 2), (.ref m0)])) (fun t k => by
      refine XS.imul X122.here hx rfl (hb hby o214_189) rfl ?_
      refine XS.icmpNo X122.here hx rfl (hb hby o214_190) rfl (tlt (by decide : (2 : Int32) < (4 : Int32))).2.1 ?_
      show oW p e below T122 (oF_inv m 193 (oR sx) (oR el) (oi 1) (oi 1) (oR m0) (od ux) .second (oi 2) (od FP.dconst0) .second .unset []) _
      refine XS.aloadN X122.here hx rfl (hb hby o214_193) rfl rfl ?_
      refine XS.iloadN X122.here hx rfl (hb hby o214_194) rfl ?_
      refine own_ldA X122 hx hZ e122 f121_6 ⟨by decide, by decide⟩ (v := (.ref m0)) rfl (g := (oF_inv m 195 (oR sx) (oR el) (oi 1) (oi 1) (oR m0) (od ux) .second (oi 2) (od FP.dconst0) .second .unset [(.int 1), (.ref el)])) rfl rfl (hb hby o214_195) _ ?_
      refine XS.iload X122.here hx rfl (hb hby o214_196) rfl ?_
      refine XT.dup2 X122.here hx rfl (hb hby o214_198) rfl rfl rfl ?_
      refine own_ldD X122 hx hZ e122 V121 ⟨by decide, by decide⟩ (v := (.double FP.dconst1)) rfl (g := (oF_inv m 199 (oR sx) (oR el) (oi 1) (oi 1) (oR m0) (od ux) .second (oi 2) (od FP.dconst0) .second .unset [(.int 2), (.ref m0), (.int 2), (.ref m0)])) rfl rfl (hb hby o214_199) _ ?_
      show oW p e below T122 (oF_inv m 200 (oR sx) (oR el) (oi 1) (oi 1) (oR m0) (od ux) .second (oi 2) (od FP.dconst0) .second .unset [(.double FP.dconst1), (.int 2), (.ref m0)]) _
      refine XS.dload X122.here hx rfl (hb hby o214_200) rfl ?_
      refine XS.ddivS X122.here hx rfl (hb hby o214_202) rfl (own_f6n hPx hPy) (own_f6 hPx hPy) ?_
      exact k) ?_
    obtain ⟨T123, h123, X123, e123, W123, U123, st123⟩ := own_stD X122 hx hZ e122 V121 (j := (2 : Int32)) ⟨by decide, by decide⟩ 2 rfl (Nat.le_of_ble_eq_true rfl) (g := (oF_inv m 203 (oR sx) (oR el) (oi 1) (oi 1) (oR m0) (od ux) .second (oi 2) (od FP.dconst0) .second .unset [(.double vx), (.int 2), (.ref m0)])) rfl rfl (hb hby o214_203)
    refine own_go st123 ?_
    have V123 : Arv Z h123 m0 km0 .double (4 : Int32) [(.double 0), (.double 4607182418800017408), (.double vx), (.double FP.dconst0)] (.double 0) := U123
    have f123_6 : Arv Z h123 el kel (.array .double) (2 : Int32) [(.ref m1), (.ref m0)] .null := f121_6.other W123 (od_el_m0)
    have f123_10 : Arv Z h123 i0 ki0 .double (2 : Int32) [(.double 0), (.double 0)] (.double 0) := f121_10.other W123 (od_i0_m0)
    have f123_11 : Arv Z h123 i1 ki1 .double (2 : Int32) [(.double 0), (.double 0)] (.double 0) := f121_11.other W123 (od_i1_m0)
    have f123_13 : Arv Z h123 vl kvl .double (2 : Int32) [(.double 0), (.double 0)] (.double 0) := f121_13.other W123 (od_vl_m0)
    have f123_14 : Arv Z h123 m1 km1 .double (4 : Int32) [(.double 4607182418800017408), (.double 0), (.double 0), (.double vy)] (.double 0) := f121_14.other W123 (od_m0_m1.symm)
    have N123 := Fr.snoc X123 N121 g_m0
    have Z123 : n0 ≤ h123.size := Nat.le_trans Z121 (Keep.of_wr W123).1
    have K123 : Keep h0 h123 [el, m0, m1, i0, i1, vl] := K121.wr W123 (Or.inl (List.mem_of_getElem? (i := 1) rfl))
    refine own_go (A := oW p e below T123 (oF_inv m 186 (oR sx) (oR el) (oi 1) (oi 1) (oR m0) (od ux) .second (oi 3) (od FP.dconst0) .second .unset [(.ref sx), (.int 2), (.int 3)])) (fun t k => by
      refine XS.iinc X123.here hx rfl (hb hby o214_204) rfl (l' := #[(oR sx), (oR el), (oi 1), (oi 1), (oR m0), (od ux), .second, (oi 3), (od FP.dconst0), .second, .unset]) rfl ?_
      refine XS.goto X123.here hx rfl (pc0 := 207) (pc' := 182) rfl (hb hby o214_207) (by decide) (by decide) ?_
      refine XS.iload X123.here hx rfl (hb hby o214_182) rfl ?_
      refine XS.iconst X123.here hx rfl (hb hby o214_184) ?_
      show oW p e below T123 (oF_inv m 185 (oR sx) (oR el) (oi 1) (oi 1) (oR m0) (od ux) .second (oi 3) (od FP.dconst0) .second .unset [(.int 2), (.int 3)]) _
      refine XS.aloadN X123.here hx rfl (hb hby o214_185) rfl rfl ?_
      exact k) ?_
    obtain ⟨T124, X124, e124, st124⟩ := getF X123 hx hZ hown (host := "") (Or.inl ow25) Via.refl e123 (Gp1.keep K123 nn_sx) (g := (oF_inv m 186 (oR sx) (oR el) (oi 1) (oi 1) (oR m0) (od ux) .second (oi 3) (od FP.dconst0) .second .unset [(.ref sx), (.int 2), (.int 3)])) rfl rfl (hb hby o214_186)
    refine own_go st124 ?_
    refine own_go (A := oW p e below T124 (oF_inv m 203 (oR sx) (oR el) (oi 1) (oi 1) (oR m0) (od ux) .second (oi 3) (od FP.dconst0) .second .unset [(.double 0), (.int 3), (.ref m0)])) (fun t k => by
      refine XS.imul X124.here hx rfl (hb hby o214_189) rfl ?_
      refine XS.icmpNo X124.here hx rfl (hb hby o214_190) rfl (tlt (by decide : (3 : Int32) < (4 : Int32))).2.1 ?_
      refine XS.aloadN X124.here hx rfl (hb hby o214_193) rfl rfl ?_
      refine XS.iloadN X124.here hx rfl (hb hby o214_194) rfl ?_
      refine own_ldA X124 hx hZ e124 f123_6 ⟨by decide, by decide⟩ (v := (.ref m0)) rfl (g := (oF_inv m 195 (oR sx) (oR el) (oi 1) (oi 1) (oR m0) (od ux) .second (oi 3) (od FP.dconst0) .second .unset [(.int 1), (.ref el)])) rfl rfl (hb hby o214_195) _ ?_
      show oW p e below T124 (oF_inv m 196 (oR sx) (oR el) (oi 1) (oi 1) (oR m0) (od ux) .second (oi 3) (od FP.dconst0) .second .unset [(.ref m0)]) _
      refine XS.iload X124.here hx rfl (hb hby o214_196) rfl ?_
      refine XT.dup2 X124.here hx rfl (hb hby o214_198) rfl rfl rfl ?_
      refine own_ldD X124 hx hZ e124 V123 ⟨by decide, by decide⟩ (v := (.double FP.dconst0)) rfl (g := (oF_inv m 199 (oR sx) (oR el) (oi 1) (oi 1) (oR m0) (od ux) .second (oi 3) (od FP.dconst0) .second .unset [(.int 3), (.ref m0), (.int 3), (.ref m0)])) rfl rfl (hb hby o214_199) _ ?_
      refine XS.dload X124.here hx rfl (hb hby o214_200) rfl ?_
      refine XS.ddivS X124.here hx rfl (hb hby o214_202) rfl (own_f5n hPx hPy) (own_f5 hPx hPy) ?_
      exact k) ?_
    obtain ⟨T125, h125, X125, e125, W125, U125, st125⟩ := own_stD X124 hx hZ e124 V123 (j := (3 : Int32)) ⟨by decide, by decide⟩ 3 rfl (Nat.le_of_ble_eq_true rfl) (g := (oF_inv m 203 (oR sx) (oR el) (oi 1) (oi 1) (oR m0) (od ux) .second (oi 3) (od FP.dconst0) .second .unset [(.double 0), (.int 3), (.ref m0)])) rfl rfl (hb hby o214_203)
    refine own_go st125 ?_
    have V125 : Arv Z h125 m0 km0 .double (4 : Int32) [(.double 0), (.double 4607182418800017408), (.double vx), (.double 0)] (.double 0) := U125
    have f125_6 : Arv Z h125 el kel (.array .double) (2 : Int32) [(.ref m1), (.ref m0)] .null := f123_6.other W125 (od_el_m0)
    have f125_10 : Arv Z h125 i0 ki0 .double (2 : Int32) [(.double 0), (.double 0)] (.double 0) := f123_10.other W125 (od_i0_m0)
    have f125_11 : Arv Z h125 i1 ki1 .double (2 : Int32) [(.double 0), (.double 0)] (.double 0) := f123_11.other W125 (od_i1_m0)
    have f125_13 : Arv Z h125 vl kvl .double (2 : Int32) [(.double 0), (.double 0)] (.double 0) := f123_13.other W125 (od_vl_m0)
    have f125_14 : Arv Z h125 m1 km1 .double (4 : Int32) [(.double 4607182418800017408), (.double 0), (.double 0), (.double vy)] (.double 0) := f123_14.other W125 (od_m0_m1.symm)
    have N125 := Fr.snoc X125 N123 g_m0
    have Z125 : n0 ≤ h125.size := Nat.le_trans Z123 (Keep.of_wr W125).1
    have K125 : Keep h0 h125 [el, m0, m1, i0, i1, vl] := K123.wr W125 (Or.inl (List.mem_of_getElem? (i := 1) rfl))
    refine own_go (A := oW p e below T125 (oF_inv m 186 (oR sx) (oR el) (oi 1) (oi 1) (oR m0) (od ux) .second (oi 4) (od FP.dconst0) .second .unset [(.ref sx), (.int 2), (.int 4)])) (fun t k => by
      refine XS.iinc X125.here hx rfl (hb hby o214_204) rfl (l' := #[(oR sx), (oR el), (oi 1), (oi 1), (oR m0), (od ux), .second, (oi 4), (od FP.dconst0), .second, .unset]) rfl ?_
      show oW p e below T125 (oF_inv m 207 (oR sx) (oR el) (oi 1) (oi 1) (oR m0) (od ux) .second (oi 4) (od FP.dconst0) .second .unset []) _
      refine XS.goto X125.here hx rfl (pc0 := 207) (pc' := 182) rfl (hb hby o214_207) (by decide) (by decide) ?_
      refine XS.iload X125.here hx rfl (hb hby o214_182) rfl ?_
      refine XS.iconst X125.here hx rfl (hb hby o214_184) ?_
      refine XS.aloadN X125.here hx rfl (hb hby o214_185) rfl rfl ?_
      exact k) ?_
    obtain ⟨T126, X126, e126, st126⟩ := getF X125 hx hZ hown (host := "") (Or.inl ow25) Via.refl e125 (Gp1.keep K125 nn_sx) (g := (oF_inv m 186 (oR sx) (oR el) (oi 1) (oi 1) (oR m0) (od ux) .second (oi 4) (od FP.dconst0) .second .unset [(.ref sx), (.int 2), (.int 4)])) rfl rfl (hb hby o214_186)
    refine own_go st126 ?_
    refine own_go (A := oW p e below T126 (oF_inv m 216 (oR sx) (oR el) (oi 1) (oi 1) (oR m0) (od ux) .second (oi 0) (od FP.dconst0) .second .unset [(.ref sx), (.int 0)])) (fun t k => by
      refine XS.imul X126.here hx rfl (hb hby o214_189) rfl ?_
      refine XS.icmpYes X126.here hx rfl (pc0 := 190) (pc' := 210) rfl (hb hby o214_190) rfl (flt (by decide : ¬ ((4 : Int32) < (4 : Int32)))).2.1 (by decide) (by decide) ?_
      show oW p e below T126 (oF_inv m 210 (oR sx) (oR el) (oi 1) (oi 1) (oR m0) (od ux) .second (oi 4) (od FP.dconst0) .second .unset []) _
      refine XS.iconst X126.here hx rfl (hb hby o214_210) ?_
      refine XS.istore X126.here hx rfl (hb hby o214_211) rfl (l' := #[(oR sx), (oR el), (oi 1), (oi 1), (oR m0), (od ux), .second, (oi 0), (od FP.dconst0), .second, .unset]) rfl ?_
      refine XS.iload X126.here hx rfl (hb hby o214_213) rfl ?_
      refine XS.aloadN X126.here hx rfl (hb hby o214_215) rfl rfl ?_
      exact k) ?_
    obtain ⟨T127, X127, e127, st127⟩ := getF X126 hx hZ hown (host := "") (Or.inl ow25) Via.refl e126 (Gp1.keep K125 nn_sx) (g := (oF_inv m 216 (oR sx) (oR el) (oi 1) (oi 1) (oR m0) (od ux) .second (oi 0) (od FP.dconst0) .second .unset [(.ref sx), (.int 0)])) rfl rfl (hb hby o214_216)
    refine own_go st127 ?_
    refine own_go (A := oW p e below T127 (oF_inv m 216 (oR sx) (oR el) (oi 1) (oi 1) (oR m0) (od ux) .second (oi 1) (od 0) .second .unset [(.ref sx), (.int 1)])) (fun t k => by
      refine XS.icmpNo X127.here hx rfl (hb hby o214_219) rfl (tlt (by decide : (0 : Int32) < (2 : Int32))).2.1 ?_
      refine XS.aloadN X127.here hx rfl (hb hby o214_222) rfl rfl ?_
      show oW p e below T127 (oF_inv m 223 (oR sx) (oR el) (oi 1) (oi 1) (oR m0) (od ux) .second (oi 0) (od FP.dconst0) .second .unset [(.ref el)]) _
      refine XS.iload X127.here hx rfl (hb hby o214_223) rfl ?_
      refine own_ldA X127 hx hZ e127 f125_6 ⟨by decide, by decide⟩ (v := (.ref m1)) rfl (g := (oF_inv m 225 (oR sx) (oR el) (oi 1) (oi 1) (oR m0) (od ux) .second (oi 0) (od FP.dconst0) .second .unset [(.int 0), (.ref el)])) rfl rfl (hb hby o214_225) _ ?_
      refine XS.iloadN X127.here hx rfl (hb hby o214_226) rfl ?_
      refine own_ldD X127 hx hZ e127 f125_14 ⟨by decide, by decide⟩ (v := (.double 0)) rfl (g := (oF_inv m 227 (oR sx) (oR el) (oi 1) (oi 1) (oR m0) (od ux) .second (oi 0) (od FP.dconst0) .second .unset [(.int 1), (.ref m1)])) rfl rfl (hb hby o214_227) _ ?_
      refine XS.dstore X127.here hx rfl (hb hby o214_228) rfl (l' := #[(oR sx), (oR el), (oi 1), (oi 1), (oR m0), (od ux), .second, (oi 0), (od 0), .second, .unset]) rfl ?_
      refine XS.iload X127.here hx rfl (hb hby o214_230) rfl ?_
      show oW p e below T127 (oF_inv m 232 (oR sx) (oR el) (oi 1) (oi 1) (oR m0) (od ux) .second (oi 0) (od 0) .second .unset [(.int 0)]) _
      refine XS.iloadN X127.here hx rfl (hb hby o214_232) rfl ?_
      refine XS.icmpNo X127.here hx rfl (hb hby o214_233) rfl (feq (by decide : ¬ ((0 : Int32) = (1 : Int32)))).1 ?_
      refine XS.dload X127.here hx rfl (hb hby o214_236) rfl ?_
      refine XS.dconst0 X127.here hx rfl (hb hby o214_238) rfl ?_
      refine XS.dcmpS X127.here hx rfl (hb hby o214_239) rfl (own_f13 hPx hPy) ?_
      refine XS.ifYes X127.here hx rfl (pc0 := 240) (pc' := 282) rfl (hb hby o214_240) rfl ((if0 _ _).trans (teq (by decide : (0 : Int32) = (0 : Int32))).1) (by decide) (by decide) ?_
      show oW p e below T127 (oF_inv m 282 (oR sx) (oR el) (oi 1) (oi 1) (oR m0) (od ux) .second (oi 0) (od 0) .second .unset []) _
      refine XS.iinc X127.here hx rfl (hb hby o214_282) rfl (l' := #[(oR sx), (oR el), (oi 1), (oi 1), (oR m0), (od ux), .second, (oi 1), (od 0), .second, .unset]) rfl ?_
      refine XS.goto X127.here hx rfl (pc0 := 285) (pc' := 213) rfl (hb hby o214_285) (by decide) (by decide) ?_
      refine XS.iload X127.here hx rfl (hb hby o214_213) rfl ?_
      refine XS.aloadN X127.here hx rfl (hb hby o214_215) rfl rfl ?_
      exact k) ?_
    obtain ⟨T128, X128, e128, st128⟩ := getF X127 hx hZ hown (host := "") (Or.inl ow25) Via.refl e127 (Gp1.keep K125 nn_sx) (g := (oF_inv m 216 (oR sx) (oR el) (oi 1) (oi 1) (oR m0) (od ux) .second (oi 1) (od 0) .second .unset [(.ref sx), (.int 1)])) rfl rfl (hb hby o214_216)
    refine own_go st128 ?_
    refine own_go (A := oW p e below T128 (oF_inv m 216 (oR sx) (oR el) (oi 1) (oi 1) (oR m0) (od ux) .second (oi 2) (od 4607182418800017408) .second .unset [(.ref sx), (.int 2)])) (fun t k => by
      refine XS.icmpNo X128.here hx rfl (hb hby o214_219) rfl (tlt (by decide : (1 : Int32) < (2 : Int32))).2.1 ?_
      refine XS.aloadN X128.here hx rfl (hb hby o214_222) rfl rfl ?_
      show oW p e below T128 (oF_inv m 223 (oR sx) (oR el) (oi 1) (oi 1) (oR m0) (od ux) .second (oi 1) (od 0) .second .unset [(.ref el)]) _
      refine XS.iload X128.here hx rfl (hb hby o214_223) rfl ?_
      refine own_ldA X128 hx hZ e128 f125_6 ⟨by decide, by decide⟩ (v := (.ref m0)) rfl (g := (oF_inv m 225 (oR sx) (oR el) (oi 1) (oi 1) (oR m0) (od ux) .second (oi 1) (od 0) .second .unset [(.int 1), (.ref el)])) rfl rfl (hb hby o214_225) _ ?_
      refine XS.iloadN X128.here hx rfl (hb hby o214_226) rfl ?_
      refine own_ldD X128 hx hZ e128 V125 ⟨by decide, by decide⟩ (v := (.double 4607182418800017408)) rfl (g := (oF_inv m 227 (oR sx) (oR el) (oi 1) (oi 1) (oR m0) (od ux) .second (oi 1) (od 0) .second .unset [(.int 1), (.ref m0)])) rfl rfl (hb hby o214_227) _ ?_
      refine XS.dstore X128.here hx rfl (hb hby o214_228) rfl (l' := #[(oR sx), (oR el), (oi 1), (oi 1), (oR m0), (od ux), .second, (oi 1), (od 4607182418800017408), .second, .unset]) rfl ?_
      refine XS.iload X128.here hx rfl (hb hby o214_230) rfl ?_
      show oW p e below T128 (oF_inv m 232 (oR sx) (oR el) (oi 1) (oi 1) (oR m0) (od ux) .second (oi 1) (od 4607182418800017408) .second .unset [(.int 1)]) _
      refine XS.iloadN X128.here hx rfl (hb hby o214_232) rfl ?_
      refine XS.icmpYes X128.here hx rfl (pc0 := 233) (pc' := 282) rfl (hb hby o214_233) rfl (teq (by decide : (1 : Int32) = (1 : Int32))).1 (by decide) (by decide) ?_
      refine XS.iinc X128.here hx rfl (hb hby o214_282) rfl (l' := #[(oR sx), (oR el), (oi 1), (oi 1), (oR m0), (od ux), .second, (oi 2), (od 4607182418800017408), .second, .unset]) rfl ?_
      refine XS.goto X128.here hx rfl (pc0 := 285) (pc' := 213) rfl (hb hby o214_285) (by decide) (by decide) ?_
      refine XS.iload X128.here hx rfl (hb hby o214_213) rfl ?_
      refine XS.aloadN X128.here hx rfl (hb hby o214_215) rfl rfl ?_
      exact k) ?_
    obtain ⟨T129, X129, e129, st129⟩ := getF X128 hx hZ hown (host := "") (Or.inl ow25) Via.refl e128 (Gp1.keep K125 nn_sx) (g := (oF_inv m 216 (oR sx) (oR el) (oi 1) (oi 1) (oR m0) (od ux) .second (oi 2) (od 4607182418800017408) .second .unset [(.ref sx), (.int 2)])) rfl rfl (hb hby o214_216)
    refine own_go st129 ?_
    refine own_go (A := oW p e below T129 (oF_inv m 87 (oR sx) (oR el) (oi 2) (oi 1) (oR m0) (od ux) .second (oi 2) (od 4607182418800017408) .second .unset [(.ref sx), (.int 2)])) (fun t k => by
      refine XS.icmpYes X129.here hx rfl (pc0 := 219) (pc' := 288) rfl (hb hby o214_219) rfl (flt (by decide : ¬ ((2 : Int32) < (2 : Int32)))).2.1 (by decide) (by decide) ?_
      refine XS.iinc X129.here hx rfl (hb hby o214_288) rfl (l' := #[(oR sx), (oR el), (oi 2), (oi 1), (oR m0), (od ux), .second, (oi 2), (od 4607182418800017408), .second, .unset]) rfl ?_
      refine XS.goto X129.here hx rfl (pc0 := 291) (pc' := 85) rfl (hb hby o214_291) (by decide) (by decide) ?_
      refine XS.iloadN X129.here hx rfl (hb hby o214_85) rfl ?_
      refine XS.aloadN X129.here hx rfl (hb hby o214_86) rfl rfl ?_
      exact k) ?_
    obtain ⟨T130, X130, e130, st130⟩ := getF X129 hx hZ hown (host := "") (Or.inl ow25) Via.refl e129 (Gp1.keep K125 nn_sx) (g := (oF_inv m 87 (oR sx) (oR el) (oi 2) (oi 1) (oR m0) (od ux) .second (oi 2) (od 4607182418800017408) .second .unset [(.ref sx), (.int 2)])) rfl rfl (hb hby o214_87)
    refine own_go st130 ?_
    refine own_go (A := oW p e below T130 (oF_inv m 298 (oR sx) (oR el) (oi 0) (oi 1) (oR m0) (od ux) .second (oi 2) (od 4607182418800017408) .second .unset [(.ref sx), (.int 0)])) (fun t k => by
      refine XS.icmpYes X130.here hx rfl (pc0 := 90) (pc' := 294) rfl (hb hby o214_90) rfl (flt (by decide : ¬ ((2 : Int32) < (2 : Int32)))).2.1 (by decide) (by decide) ?_
      show oW p e below T130 (oF_inv m 294 (oR sx) (oR el) (oi 2) (oi 1) (oR m0) (od ux) .second (oi 2) (od 4607182418800017408) .second .unset []) _
      refine XS.iconst X130.here hx rfl (hb hby o214_294) ?_
      refine XS.istoreN X130.here hx rfl (hb hby o214_295) rfl (l' := #[(oR sx), (oR el), (oi 0), (oi 1), (oR m0), (od ux), .second, (oi 2), (od 4607182418800017408), .second, .unset]) rfl ?_
      refine XS.iloadN X130.here hx rfl (hb hby o214_296) rfl ?_
      refine XS.aloadN X130.here hx rfl (hb hby o214_297) rfl rfl ?_
      exact k) ?_
    obtain ⟨T131, X131, e131, st131⟩ := getF X130 hx hZ hown (host := "") (Or.inl ow25) Via.refl e130 (Gp1.keep K125 nn_sx) (g := (oF_inv m 298 (oR sx) (oR el) (oi 0) (oi 1) (oR m0) (od ux) .second (oi 2) (od 4607182418800017408) .second .unset [(.ref sx), (.int 0)])) rfl rfl (hb hby o214_298)
    refine own_go st131 ?_
    refine own_go (A := oW p e below T131 (oF_inv m 308 (oR sx) (oR el) (oi 0) (oi 1) (oR m0) (od ux) .second (oi 2) (od 4607182418800017408) .second .unset [(.ref sx), (.ref m1)])) (fun t k => by
      refine XS.icmpNo X131.here hx rfl (hb hby o214_301) rfl (tlt (by decide : (0 : Int32) < (2 : Int32))).2.1 ?_
      refine XS.aloadN X131.here hx rfl (hb hby o214_304) rfl rfl ?_
      show oW p e below T131 (oF_inv m 305 (oR sx) (oR el) (oi 0) (oi 1) (oR m0) (od ux) .second (oi 2) (od 4607182418800017408) .second .unset [(.ref el)]) _
      refine XS.iloadN X131.here hx rfl (hb hby o214_305) rfl ?_
      refine own_ldA X131 hx hZ e131 f125_6 ⟨by decide, by decide⟩ (v := (.ref m1)) rfl (g := (oF_inv m 306 (oR sx) (oR el) (oi 0) (oi 1) (oR m0) (od ux) .second (oi 2) (od 4607182418800017408) .second .unset [(.int 0), (.ref el)])) rfl rfl (hb hby o214_306) _ ?_
      refine XS.aloadN X131.here hx rfl (hb hby o214_307) rfl rfl ?_
      exact k) ?_
    obtain ⟨T132, X132, e132, st132⟩ := getF X131 hx hZ hown (host := "") (Or.inl ow25) Via.refl e131 (Gp1.keep K125 nn_sx) (g := (oF_inv m 308 (oR sx) (oR el) (oi 0) (oi 1) (oR m0) (od ux) .second (oi 2) (od 4607182418800017408) .second .unset [(.ref sx), (.ref m1)])) rfl rfl (hb hby o214_308)
    refine own_go st132 ?_
    refine own_go (A := oW p e below T132 (oF_inv m 312 (oR sx) (oR el) (oi 0) (oi 1) (oR m0) (od ux) .second (oi 2) (od 4607182418800017408) .second .unset [(.ref sx), (.int 2), (.ref m1)])) (fun t k => by
      refine XS.aloadN X132.here hx rfl (hb hby o214_311) rfl rfl ?_
      exact k) ?_
    obtain ⟨T133, X133, e133, st133⟩ := getF X132 hx hZ hown (host := "") (Or.inl ow40) Via.refl e132 (Gp5.keep K125 nn_sx) (g := (oF_inv m 312 (oR sx) (oR el) (oi 0) (oi 1) (oR m0) (od ux) .second (oi 2) (od 4607182418800017408) .second .unset [(.ref sx), (.int 2), (.ref m1)])) rfl rfl (hb hby o214_312)
    refine own_go st133 ?_
    refine own_go (A := oW p e below T133 (oF_inv m 319 (oR sx) (oR el) (oi 0) (oi 1) (oR m0) (od ux) .second (oi 2) (od 4607182418800017408) .second .unset [(.ref sx), (.int 0), (.ref i0), (.int 2), (.ref m1)])) (fun t k => by
      refine XS.iloadN X133.here hx rfl (hb hby o214_315) rfl ?_
      refine own_ldA X133 hx hZ e133 (Gp17.keep K125 nn_iv) ⟨by decide, by decide⟩ (v := (.ref i0)) rfl (g := (oF_inv m 316 (oR sx) (oR el) (oi 0) (oi 1) (oR m0) (od ux) .second (oi 2) (od 4607182418800017408) .second .unset [(.int 0), (.ref iv), (.int 2), (.ref m1)])) rfl rfl (hb hby o214_316) _ ?_
      show oW p e below T133 (oF_inv m 317 (oR sx) (oR el) (oi 0) (oi 1) (oR m0) (od ux) .second (oi 2) (od 4607182418800017408) .second .unset [(.ref i0), (.int 2), (.ref m1)]) _
      refine XS.iconst X133.here hx rfl (hb hby o214_317) ?_
      refine XS.aloadN X133.here hx rfl (hb hby o214_318) rfl rfl ?_
      exact k) ?_
    obtain ⟨T134, X134, e134, st134⟩ := getF X133 hx hZ hown (host := "") (Or.inl ow25) Via.refl e133 (Gp1.keep K125 nn_sx) (g := (oF_inv m 319 (oR sx) (oR el) (oi 0) (oi 1) (oR m0) (od ux) .second (oi 2) (od 4607182418800017408) .second .unset [(.ref sx), (.int 0), (.ref i0), (.int 2), (.ref m1)])) rfl rfl (hb hby o214_319)
    refine own_go st134 ?_
    obtain ⟨T135, h135, L135, X135, e135, N135, Kc135, A135, st135⟩ := cpA X134 hx hZ hown ow81 ow84 ow82 ow83 e134 f125_14 f125_10 (us := [(.double 0), (.double vy)]) (Or.inl ⟨rfl, rfl⟩) (by decide) (by decide) (by decide) (by decide) (by decide) rfl (by decide) N125 g_i0 (g := (oF_inv m 322 (oR sx) (oR el) (oi 0) (oi 1) (oR m0) (od ux) .second (oi 2) (od 4607182418800017408) .second .unset [(.int 2), (.int 0), (.ref i0), (.int 2), (.ref m1)])) rfl (by rw [hml]; rfl) rfl (hb hby o214_322) (by decide) (W := 0) (by show 2 * 0 + _ ≤ _; exact Nat.le_of_eq rfl) (by decide)
    refine own_go st135 ?_
    have V135 : Arv Z h135 i0 ki0 .double (2 : Int32) [(.double 0), (.double vy)] (.double 0) := A135
    have f135_6 : Arv Z h135 el kel (.array .double) (2 : Int32) [(.ref m1), (.ref m0)] .null := f125_6.keep Kc135 (ninS od_i0_el.symm nin0)
    have f135_10 : Arv Z h135 i0 ki0 .double (2 : Int32) [(.double 0), (.double vy)] (.double 0) := V135
    have f135_11 : Arv Z h135 i1 ki1 .double (2 : Int32) [(.double 0), (.double 0)] (.double 0) := f125_11.keep Kc135 (ninS od_i0_i1.symm nin0)
    have f135_13 : Arv Z h135 vl kvl .double (2 : Int32) [(.double 0), (.double 0)] (.double 0) := f125_13.keep Kc135 (ninS od_i0_vl.symm nin0)
    have f135_14 : Arv Z h135 m1 km1 .double (4 : Int32) [(.double 4607182418800017408), (.double 0), (.double 0), (.double vy)] (.double 0) := f125_14.keep Kc135 (ninS od_i0_m1.symm nin0)
    have f135_15 : Arv Z h135 m0 km0 .double (4 : Int32) [(.double 0), (.double 4607182418800017408), (.double vx), (.double 0)] (.double 0) := V125.keep Kc135 (ninS od_i0_m0.symm nin0)
    have Z135 : n0 ≤ h135.size := Nat.le_trans Z125 Kc135.1
    have K135 : Keep h0 h135 [el, m0, m1, i0, i1, vl] := K125.trans Kc135 (allS (Or.inl (List.mem_of_getElem? (i := 3) rfl)) all0)
    refine own_go (A := oW p e below T135 (oF_inv m 298 (oR sx) (oR el) (oi 1) (oi 1) (oR m0) (od ux) .second (oi 2) (od 4607182418800017408) .second .unset [(.ref sx), (.int 1)])) (fun t k => by
      refine XS.iinc X135.here hx rfl (hb hby o214_325) rfl (l' := #[(oR sx), (oR el), (oi 1), (oi 1), (oR m0), (od ux), .second, (oi 2), (od 4607182418800017408), .second, .unset]) rfl ?_
      refine XS.goto X135.here hx rfl (pc0 := 328) (pc' := 296) rfl (hb hby o214_328) (by decide) (by decide) ?_
      refine XS.iloadN X135.here hx rfl (hb hby o214_296) rfl ?_
      refine XS.aloadN X135.here hx rfl (hb hby o214_297) rfl rfl ?_
      exact k) ?_
    obtain ⟨T136, X136, e136, st136⟩ := getF X135 hx hZ hown (host := "") (Or.inl ow25) Via.refl e135 (Gp1.keep K135 nn_sx) (g := (oF_inv m 298 (oR sx) (oR el) (oi 1) (oi 1) (oR m0) (od ux) .second (oi 2) (od 4607182418800017408) .second .unset [(.ref sx), (.int 1)])) rfl rfl (hb hby o214_298)
    refine own_go st136 ?_
    refine own_go (A := oW p e below T136 (oF_inv m 308 (oR sx) (oR el) (oi 1) (oi 1) (oR m0) (od ux) .second (oi 2) (od 4607182418800017408) .second .unset [(.ref sx), (.ref m0)])) (fun t k => by
      refine XS.icmpNo X136.here hx rfl (hb hby o214_301) rfl (tlt (by decide : (1 : Int32) < (2 : Int32))).2.1 ?_
      refine XS.aloadN X136.here hx rfl (hb hby o214_304) rfl rfl ?_
      refine XS.iloadN X136.here hx rfl (hb hby o214_305) rfl ?_
      refine own_ldA X136 hx hZ e136 f135_6 ⟨by decide, by decide⟩ (v := (.ref m0)) rfl (g := (oF_inv m 306 (oR sx) (oR el) (oi 1) (oi 1) (oR m0) (od ux) .second (oi 2) (od 4607182418800017408) .second .unset [(.int 1), (.ref el)])) rfl rfl (hb hby o214_306) _ ?_
      refine XS.aloadN X136.here hx rfl (hb hby o214_307) rfl rfl ?_
      exact k) ?_
    obtain ⟨T137, X137, e137, st137⟩ := getF X136 hx hZ hown (host := "") (Or.inl ow25) Via.refl e136 (Gp1.keep K135 nn_sx) (g := (oF_inv m 308 (oR sx) (oR el) (oi 1) (oi 1) (oR m0) (od ux) .second (oi 2) (od 4607182418800017408) .second .unset [(.ref sx), (.ref m0)])) rfl rfl (hb hby o214_308)
    refine own_go st137 ?_
    refine own_go (A := oW p e below T137 (oF_inv m 312 (oR sx) (oR el) (oi 1) (oi 1) (oR m0) (od ux) .second (oi 2) (od 4607182418800017408) .second .unset [(.ref sx), (.int 2), (.ref m0)])) (fun t k => by
      refine XS.aloadN X137.here hx rfl (hb hby o214_311) rfl rfl ?_
      exact k) ?_
    obtain ⟨T138, X138, e138, st138⟩ := getF X137 hx hZ hown (host := "") (Or.inl ow40) Via.refl e137 (Gp5.keep K135 nn_sx) (g := (oF_inv m 312 (oR sx) (oR el) (oi 1) (oi 1) (oR m0) (od ux) .second (oi 2) (od 4607182418800017408) .second .unset [(.ref sx), (.int 2), (.ref m0)])) rfl rfl (hb hby o214_312)
    refine own_go st138 ?_
    refine own_go (A := oW p e below T138 (oF_inv m 319 (oR sx) (oR el) (oi 1) (oi 1) (oR m0) (od ux) .second (oi 2) (od 4607182418800017408) .second .unset [(.ref sx), (.int 0), (.ref i1), (.int 2), (.ref m0)])) (fun t k => by
      refine XS.iloadN X138.here hx rfl (hb hby o214_315) rfl ?_
      refine own_ldA X138 hx hZ e138 (Gp17.keep K135 nn_iv) ⟨by decide, by decide⟩ (v := (.ref i1)) rfl (g := (oF_inv m 316 (oR sx) (oR el) (oi 1) (oi 1) (oR m0) (od ux) .second (oi 2) (od 4607182418800017408) .second .unset [(.int 1), (.ref iv), (.int 2), (.ref m0)])) rfl rfl (hb hby o214_316) _ ?_
      refine XS.iconst X138.here hx rfl (hb hby o214_317) ?_
      refine XS.aloadN X138.here hx rfl (hb hby o214_318) rfl rfl ?_
      exact k) ?_
    obtain ⟨T139, X139, e139, st139⟩ := getF X138 hx hZ hown (host := "") (Or.inl ow25) Via.refl e138 (Gp1.keep K135 nn_sx) (g := (oF_inv m 319 (oR sx) (oR el) (oi 1) (oi 1) (oR m0) (od ux) .second (oi 2) (od 4607182418800017408) .second .unset [(.ref sx), (.int 0), (.ref i1), (.int 2), (.ref m0)])) rfl rfl (hb hby o214_319)
    refine own_go st139 ?_
    obtain ⟨T140, h140, L140, X140, e140, N140, Kc140, A140, st140⟩ := cpA X139 hx hZ hown ow81 ow84 ow82 ow83 e139 f135_15 f135_11 (us := [(.double vx), (.double 0)]) (Or.inl ⟨rfl, rfl⟩) (by decide) (by decide) (by decide) (by decide) (by decide) rfl (by decide) N135 g_i1 (g := (oF_inv m 322 (oR sx) (oR el) (oi 1) (oi 1) (oR m0) (od ux) .second (oi 2) (od 4607182418800017408) .second .unset [(.int 2), (.int 0), (.ref i1), (.int 2), (.ref m0)])) rfl (by rw [hml]; rfl) rfl (hb hby o214_322) (by decide) (W := 0) (by show 2 * 0 + _ ≤ _; exact Nat.le_of_eq rfl) (by decide)
    refine own_go st140 ?_
    have V140 : Arv Z h140 i1 ki1 .double (2 : Int32) [(.double vx), (.double 0)] (.double 0) := A140
    have f140_6 : Arv Z h140 el kel (.array .double) (2 : Int32) [(.ref m1), (.ref m0)] .null := f135_6.keep Kc140 (ninS od_i1_el.symm nin0)
    have f140_10 : Arv Z h140 i0 ki0 .double (2 : Int32) [(.double 0), (.double vy)] (.double 0) := f135_10.keep Kc140 (ninS od_i0_i1 nin0)
    have f140_11 : Arv Z h140 i1 ki1 .double (2 : Int32) [(.double vx), (.double 0)] (.double 0) := V140
    have f140_13 : Arv Z h140 vl kvl .double (2 : Int32) [(.double 0), (.double 0)] (.double 0) := f135_13.keep Kc140 (ninS od_i1_vl.symm nin0)
    have f140_14 : Arv Z h140 m1 km1 .double (4 : Int32) [(.double 4607182418800017408), (.double 0), (.double 0), (.double vy)] (.double 0) := f135_14.keep Kc140 (ninS od_i1_m1.symm nin0)
    have f140_15 : Arv Z h140 m0 km0 .double (4 : Int32) [(.double 0), (.double 4607182418800017408), (.double vx), (.double 0)] (.double 0) := f135_15.keep Kc140 (ninS od_i1_m0.symm nin0)
    have Z140 : n0 ≤ h140.size := Nat.le_trans Z135 Kc140.1
    have K140 : Keep h0 h140 [el, m0, m1, i0, i1, vl] := K135.trans Kc140 (allS (Or.inl (List.mem_of_getElem? (i := 4) rfl)) all0)
    refine own_go (A := oW p e below T140 (oF_inv m 298 (oR sx) (oR el) (oi 2) (oi 1) (oR m0) (od ux) .second (oi 2) (od 4607182418800017408) .second .unset [(.ref sx), (.int 2)])) (fun t k => by
      refine XS.iinc X140.here hx rfl (hb hby o214_325) rfl (l' := #[(oR sx), (oR el), (oi 2), (oi 1), (oR m0), (od ux), .second, (oi 2), (od 4607182418800017408), .second, .unset]) rfl ?_
      refine XS.goto X140.here hx rfl (pc0 := 328) (pc' := 296) rfl (hb hby o214_328) (by decide) (by decide) ?_
      show oW p e below T140 (oF_inv m 296 (oR sx) (oR el) (oi 2) (oi 1) (oR m0) (od ux) .second (oi 2) (od 4607182418800017408) .second .unset []) _
      refine XS.iloadN X140.here hx rfl (hb hby o214_296) rfl ?_
      refine XS.aloadN X140.here hx rfl (hb hby o214_297) rfl rfl ?_
      exact k) ?_
    obtain ⟨T141, X141, e141, st141⟩ := getF X140 hx hZ hown (host := "") (Or.inl ow25) Via.refl e140 (Gp1.keep K140 nn_sx) (g := (oF_inv m 298 (oR sx) (oR el) (oi 2) (oi 1) (oR m0) (od ux) .second (oi 2) (od 4607182418800017408) .second .unset [(.ref sx), (.int 2)])) rfl rfl (hb hby o214_298)
    refine own_go st141 ?_
    refine own_go (A := oW p e below T141 (oF_inv m 333 (oR sx) (oR el) (oi 2) (oi 1) (oR m0) (od ux) .second (oi 2) (od 4607182418800017408) .second .unset [(.ref sx), (.ref sx)])) (fun t k => by
      refine XS.icmpYes X141.here hx rfl (pc0 := 301) (pc' := 331) rfl (hb hby o214_301) rfl (flt (by decide : ¬ ((2 : Int32) < (2 : Int32)))).2.1 (by decide) (by decide) ?_
      refine XS.aloadN X141.here hx rfl (hb hby o214_331) rfl rfl ?_
      refine XS.aloadN X141.here hx rfl (hb hby o214_332) rfl rfl ?_
      exact k) ?_
    obtain ⟨T142, X142, e142, st142⟩ := getF X141 hx hZ hown (host := "") (Or.inl ow35) Via.refl e141 (Gp6.keep K140 nn_sx) (g := (oF_inv m 333 (oR sx) (oR el) (oi 2) (oi 1) (oR m0) (od ux) .second (oi 2) (od 4607182418800017408) .second .unset [(.ref sx), (.ref sx)])) rfl rfl (hb hby o214_333)
    refine own_go st142 ?_
    refine own_go (A := oW p e below T142 (oF_inv m 337 (oR sx) (oR el) (oi 2) (oi 1) (oR m0) (od ux) .second (oi 2) (od 4607182418800017408) .second .unset [(.ref sx), (.ref li), (.ref sx)])) (fun t k => by
      refine XS.aloadN X142.here hx rfl (hb hby o214_336) rfl rfl ?_
      exact k) ?_
    obtain ⟨T143, X143, e143, st143⟩ := getF X142 hx hZ hown (host := "") (Or.inl ow42) Via.refl e142 (Gp7.keep K140 nn_sx) (g := (oF_inv m 337 (oR sx) (oR el) (oi 2) (oi 1) (oR m0) (od ux) .second (oi 2) (od 4607182418800017408) .second .unset [(.ref sx), (.ref li), (.ref sx)])) rfl rfl (hb hby o214_337)
    refine own_go st143 ?_
    obtain ⟨cq144, q144a, q144b⟩ := Exa.cell (Gp0.keep K140)
    obtain ⟨_, _, ⟨T144, L144, k144, n144⟩, -, X144, ⟨Lc144, hQ144, l144, y144, z144⟩, st144⟩ := own_privBack X143 hx (y := (⟨"com/example/composure/composure/select/Simplex", "times", "([D[D)V"⟩ : MethodName)) (z := (⟨"com/example/composure/composure/select/Simplex", "add", "([DD)I"⟩ : MethodName)) (w := (⟨"com/example/composure/composure/select/Simplex", "add", "([DD)I"⟩ : MethodName)) hown (mvT hZ ow85) (mvT hZ ow86) (mvT hZ ow57) rfl (Cond.privateMethod_at (mvP hZ ow87 (args := #[]))) (mvT hZ ow88) (by decide) (backOf (W := 0) (own_rm_times l Z a0 hw [] sx li vl co y0 y1 cs bc ba iv i0 i1 el m0 m1 pb kiv ki0 ki1 kli kvl (0 : UInt64) vy vx (0 : UInt64) dl dm (0 : UInt64) (0 : UInt64) h140 n0 Z140 hnd g_vl ok0 ok1 (Gp0.keep K140) (Gp1.keep K140 nn_sx) (Gp5.keep K140 nn_sx) (Gp17.keep K140 nn_iv) f140_10 f140_11 (Gp20.keep K140 nn_li) f140_13) hZ ow88 ow7 (by decide) (by decide)) (g := (oF_inv m 340 (oR sx) (oR el) (oi 2) (oi 1) (oR m0) (od ux) .second (oi 2) (od 4607182418800017408) .second .unset [(.ref vl), (.ref li), (.ref sx)])) rfl (by rw [hml]; rfl) (Steps.refl _) (a := sx) (by rw [e143]; exact q144a) q144b (argsL := [(.ref li), (.ref vl)]) (rest := []) (lenOf own_pd_285bD5bD29V rfl) rfl (by show 2 * 0 + _ ≤ _; exact Nat.le_of_eq rfl) (hb hby o214_340) (fun _ _ => ⟨rfl, e143, (by decide : 0 + 0 ≤ _), (by decide : 0 + 0 ≤ _)⟩)
    dsimp only [Pt.U, Pt.locs, Pt.cells, Pt.slots] at X144 l144 y144 z144 st144 hQ144
    subst l144 y144 z144
    obtain ⟨rfl, N144q, K144q, p144_0⟩ := hQ144
    have N144 := Fr.app N140 N144q
    have f144_6 : Arv Z T144.heap el kel (.array .double) (2 : Int32) [(.ref m1), (.ref m0)] .null := f140_6.keep K144q (ninS od_vl_el.symm nin0)
    have f144_10 : Arv Z T144.heap i0 ki0 .double (2 : Int32) [(.double 0), (.double vy)] (.double 0) := f140_10.keep K144q (ninS od_i0_vl nin0)
    have f144_11 : Arv Z T144.heap i1 ki1 .double (2 : Int32) [(.double vx), (.double 0)] (.double 0) := f140_11.keep K144q (ninS od_i1_vl nin0)
    have f144_14 : Arv Z T144.heap m1 km1 .double (4 : Int32) [(.double 4607182418800017408), (.double 0), (.double 0), (.double vy)] (.double 0) := f140_14.keep K144q (ninS od_vl_m1.symm nin0)
    have f144_15 : Arv Z T144.heap m0 km0 .double (4 : Int32) [(.double 0), (.double 4607182418800017408), (.double vx), (.double 0)] (.double 0) := f140_15.keep K144q (ninS od_vl_m0.symm nin0)
    have Z144 : n0 ≤ T144.heap.size := Nat.le_trans Z140 K144q.1
    have K144 : Keep h0 T144.heap [el, m0, m1, i0, i1, vl] := K140.trans K144q (allS (Or.inl (List.mem_of_getElem? (i := 5) rfl)) all0)
    refine own_go (fun _ k => st144.trans k) ?_
    refine own_go (A := oW p e below T144 (oF_inv m 344 (oR sx) (oR el) (oi 2) (oi 1) (oR m0) (od ux) .second (oi 2) (od 4607182418800017408) .second .unset [(.int 1)])) (fun t k => by
      refine XS.iconst X144.here hx rfl (hb hby o214_343) ?_
      exact k) ?_
    obtain ⟨fs, hr, hrun, hended, hW, hsame⟩ := X144.leave (v := some (.int (nar .boolean (1 : Int32)))) (fun h => by rw [Bd.returns] at h; cases h)
    refine ⟨_, _, retN X144 hx (t := .boolean) Bd.returns (by simp) (hb hby o214_344) hr, hPf _ _ ⟨hrun, hended, _, _, rfl, ?_, ⟨_, rfl⟩, hW, hsame.mono (by decide) (by decide)⟩⟩
    show own_Q_inv Z sx co y0 y1 cs bc li ba iv i0 i1 vl el m0 m1 pb kco ky0 ky1 kcs kbc kli kba kiv ki0 ki1 kvl kel km0 km1 kpb ux vx wx uy vy wy dl dm FP.dconst0 ux uy FP.dconst0 (0 : UInt64) vy vx (0 : UInt64) b0 b1 vco h0 n0 _ T144.heap _
    exact ⟨rfl, N144, K144, p144_0⟩
  · subst mt00 mt01 mt10 mt11 q00 q01 q10 q11
    refine own_go (A := oW p e below T32 (oF_inv m 87 (oR sx) (oR el) (oi 0) (oi 2) .unset .unset .unset .unset .unset .unset .unset [(.ref sx), (.int 0)])) (fun t k => by
      refine XS.iconst X32.here hx rfl (hb hby o214_83) ?_
      refine XS.istoreN X32.here hx rfl (hb hby o214_84) rfl (l' := #[(oR sx), (oR el), (oi 0), (oi 2), .unset, .unset, .unset, .unset, .unset, .unset, .unset]) rfl ?_
      refine XS.iloadN X32.here hx rfl (hb hby o214_85) rfl ?_
      refine XS.aloadN X32.here hx rfl (hb hby o214_86) rfl rfl ?_
      exact k) ?_
    obtain ⟨T145, X145, e145, st145⟩ := getF X32 hx hZ hown (host := "") (Or.inl ow25) Via.refl e32 (Gp1.keep K31 nn_sx) (g := (oF_inv m 87 (oR sx) (oR el) (oi 0) (oi 2) .unset .unset .unset .unset .unset .unset .unset [(.ref sx), (.int 0)])) rfl rfl (hb hby o214_87)
    refine own_go st145 ?_
    refine own_go (A := oW p e below T145 (oF_inv m 103 (oR sx) (oR el) (oi 0) (oi 0) (oi 1) .unset .unset .unset .unset .unset .unset [(.ref sx), (.int 1)])) (fun t k => by
      refine XS.icmpNo X145.here hx rfl (hb hby o214_90) rfl (tlt (by decide : (0 : Int32) < (2 : Int32))).2.1 ?_
      show oW p e below T145 (oF_inv m 93 (oR sx) (oR el) (oi 0) (oi 2) .unset .unset .unset .unset .unset .unset .unset []) _
      refine XS.iloadN X145.here hx rfl (hb hby o214_93) rfl ?_
      refine XS.istoreN X145.here hx rfl (hb hby o214_94) rfl (l' := #[(oR sx), (oR el), (oi 0), (oi 0), .unset, .unset, .unset, .unset, .unset, .unset, .unset]) rfl ?_
      refine XS.iloadN X145.here hx rfl (hb hby o214_95) rfl ?_
      refine XS.iconst X145.here hx rfl (hb hby o214_96) ?_
      refine XS.iadd X145.here hx rfl (hb hby o214_97) rfl ?_
      refine XS.istore X145.here hx rfl (hb hby o214_98) rfl (l' := #[(oR sx), (oR el), (oi 0), (oi 0), (oi 1), .unset, .unset, .unset, .unset, .unset, .unset]) rfl ?_
      show oW p e below T145 (oF_inv m 100 (oR sx) (oR el) (oi 0) (oi 0) (oi 1) .unset .unset .unset .unset .unset .unset []) _
      refine XS.iload X145.here hx rfl (hb hby o214_100) rfl ?_
      refine XS.aloadN X145.here hx rfl (hb hby o214_102) rfl rfl ?_
      exact k) ?_
    obtain ⟨T146, X146, e146, st146⟩ := getF X145 hx hZ hown (host := "") (Or.inl ow25) Via.refl e145 (Gp1.keep K31 nn_sx) (g := (oF_inv m 103 (oR sx) (oR el) (oi 0) (oi 0) (oi 1) .unset .unset .unset .unset .unset .unset [(.ref sx), (.int 1)])) rfl rfl (hb hby o214_103)
    refine own_go st146 ?_
    refine own_go (A := oW p e below T146 (oF_inv m 115 (oR sx) (oR el) (oi 0) (oi 0) (oi 1) .unset .unset .unset .unset .unset .unset [(.double FP.dconst1)])) (fun t k => by
      refine XS.icmpNo X146.here hx rfl (hb hby o214_106) rfl (tlt (by decide : (1 : Int32) < (2 : Int32))).2.1 ?_
      refine XS.aloadN X146.here hx rfl (hb hby o214_109) rfl rfl ?_
      refine XS.iload X146.here hx rfl (hb hby o214_110) rfl ?_
      refine own_ldA X146 hx hZ e146 f31_8 ⟨by decide, by decide⟩ (v := (.ref m1)) rfl (g := (oF_inv m 112 (oR sx) (oR el) (oi 0) (oi 0) (oi 1) .unset .unset .unset .unset .unset .unset [(.int 1), (.ref el)])) rfl rfl (hb hby o214_112) _ ?_
      show oW p e below T146 (oF_inv m 113 (oR sx) (oR el) (oi 0) (oi 0) (oi 1) .unset .unset .unset .unset .unset .unset [(.ref m1)]) _
      refine XS.iloadN X146.here hx rfl (hb hby o214_113) rfl ?_
      refine own_ldD X146 hx hZ e146 V31 ⟨by decide, by decide⟩ (v := (.double FP.dconst1)) rfl (g := (oF_inv m 114 (oR sx) (oR el) (oi 0) (oi 0) (oi 1) .unset .unset .unset .unset .unset .unset [(.int 0), (.ref m1)])) rfl rfl (hb hby o214_114) _ ?_
      exact k) ?_
    obtain ⟨_, vm147, B147, -, X147q, ⟨hr147, hB147⟩, st147⟩ := Jvm.LawKit.callS X146 hx (y := (⟨"java/lang/Math", "abs", "(D)D"⟩ : MethodName)) hown (mvT hZ ow76) (mvT hZ ow77) (mvT hZ ow78) (mvT hZ ow79) (by decide) (Jvm.Free.Fl.Abs.absD_pays (W := 0) FP.dconst1 (mvT hZ ow79) (by decide) (by decide)) (g := (oF_inv m 115 (oR sx) (oR el) (oi 0) (oi 0) (oi 1) .unset .unset .unset .unset .unset .unset [(.double FP.dconst1)])) rfl (by rw [hml]; rfl) (argsL := [(.double FP.dconst1)]) (rest := []) (lenOf own_pd_28D29D rfl) rfl (by show 2 * 0 + _ ≤ _; exact Nat.le_of_eq rfl) (hb hby o214_115) (fun _ _ => ⟨(by decide : 0 ≤ _), (by decide : 0 ≤ _), rfl, (own_s3 hPx hPy)⟩)
    subst hB147; subst hr147
    obtain ⟨T147, eT147⟩ : ∃ z, z = T146.setVm vm147 := ⟨_, rfl⟩
    dsimp only [Pt.U, Pt.locs, Pt.cells, Pt.slots] at X147q st147
    rw [← eT147] at X147q st147
    have X147 := X147q
    have e147 : T147.heap = h31 := by rw [eT147]; exact e146
    rw [own_f15 hPx hPy] at st147
    refine own_go st147 ?_
    refine own_go (A := oW p e below T147 (oF_inv m 123 (oR sx) (oR el) (oi 0) (oi 0) (oi 1) .unset .unset .unset .unset .unset .unset [(.double FP.dconst1), (.double 4607182418800017408)])) (fun t k => by
      refine XS.aloadN X147.here hx rfl (hb hby o214_118) rfl rfl ?_
      refine XS.iloadN X147.here hx rfl (hb hby o214_119) rfl ?_
      refine own_ldA X147 hx hZ e147 f31_8 ⟨by decide, by decide⟩ (v := (.ref m0)) rfl (g := (oF_inv m 120 (oR sx) (oR el) (oi 0) (oi 0) (oi 1) .unset .unset .unset .unset .unset .unset [(.int 0), (.ref el), (.double 4607182418800017408)])) rfl rfl (hb hby o214_120) _ ?_
      refine XS.iloadN X147.here hx rfl (hb hby o214_121) rfl ?_
      show oW p e below T147 (oF_inv m 122 (oR sx) (oR el) (oi 0) (oi 0) (oi 1) .unset .unset .unset .unset .unset .unset [(.int 0), (.ref m0), (.double 4607182418800017408)]) _
      refine own_ldD X147 hx hZ e147 f31_20 ⟨by decide, by decide⟩ (v := (.double FP.dconst1)) rfl (g := (oF_inv m 122 (oR sx) (oR el) (oi 0) (oi 0) (oi 1) .unset .unset .unset .unset .unset .unset [(.int 0), (.ref m0), (.double 4607182418800017408)])) rfl rfl (hb hby o214_122) _ ?_
      exact k) ?_
    obtain ⟨_, vm148, B148, -, X148q, ⟨hr148, hB148⟩, st148⟩ := Jvm.LawKit.callS X147 hx (y := (⟨"java/lang/Math", "abs", "(D)D"⟩ : MethodName)) hown (mvT hZ ow76) (mvT hZ ow77) (mvT hZ ow78) (mvT hZ ow79) (by decide) (Jvm.Free.Fl.Abs.absD_pays (W := 2) FP.dconst1 (mvT hZ ow79) (by decide) (by decide)) (g := (oF_inv m 123 (oR sx) (oR el) (oi 0) (oi 0) (oi 1) .unset .unset .unset .unset .unset .unset [(.double FP.dconst1), (.double 4607182418800017408)])) rfl (by rw [hml]; rfl) (argsL := [(.double FP.dconst1)]) (rest := [(.double 4607182418800017408)]) (lenOf own_pd_28D29D rfl) rfl (by show 2 * 0 + _ ≤ _; exact Nat.le_of_eq rfl) (hb hby o214_123) (fun _ _ => ⟨(by decide : 0 ≤ _), (by decide : 0 ≤ _), rfl, (own_s3 hPx hPy)⟩)
    subst hB148; subst hr148
    obtain ⟨T148, eT148⟩ : ∃ z, z = T147.setVm vm148 := ⟨_, rfl⟩
    dsimp only [Pt.U, Pt.locs, Pt.cells, Pt.slots] at X148q st148
    rw [← eT148] at X148q st148
    have X148 := X148q
    have e148 : T148.heap = h31 := by rw [eT148]; exact e147
    rw [own_f15 hPx hPy] at st148
    refine own_go st148 ?_
    refine own_go (A := oW p e below T148 (oF_inv m 103 (oR sx) (oR el) (oi 0) (oi 0) (oi 2) .unset .unset .unset .unset .unset .unset [(.ref sx), (.int 2)])) (fun t k => by
      refine XS.dcmpS X148.here hx rfl (hb hby o214_126) rfl (own_f16 hPx hPy) ?_
      refine XS.ifYes X148.here hx rfl (pc0 := 127) (pc' := 133) rfl (hb hby o214_127) rfl ((if0 _ _).trans (flt (by decide : ¬ ((0 : Int32) < (0 : Int32)))).2.2.2) (by decide) (by decide) ?_
      refine XS.iinc X148.here hx rfl (hb hby o214_133) rfl (l' := #[(oR sx), (oR el), (oi 0), (oi 0), (oi 2), .unset, .unset, .unset, .unset, .unset, .unset]) rfl ?_
      refine XS.goto X148.here hx rfl (pc0 := 136) (pc' := 100) rfl (hb hby o214_136) (by decide) (by decide) ?_
      refine XS.iload X148.here hx rfl (hb hby o214_100) rfl ?_
      show oW p e below T148 (oF_inv m 102 (oR sx) (oR el) (oi 0) (oi 0) (oi 2) .unset .unset .unset .unset .unset .unset [(.int 2)]) _
      refine XS.aloadN X148.here hx rfl (hb hby o214_102) rfl rfl ?_
      exact k) ?_
    obtain ⟨T149, X149, e149, st149⟩ := getF X148 hx hZ hown (host := "") (Or.inl ow25) Via.refl e148 (Gp1.keep K31 nn_sx) (g := (oF_inv m 103 (oR sx) (oR el) (oi 0) (oi 0) (oi 2) .unset .unset .unset .unset .unset .unset [(.ref sx), (.int 2)])) rfl rfl (hb hby o214_103)
    refine own_go st149 ?_
    refine own_go (A := oW p e below T149 (oF_inv m 144 (oR sx) (oR el) (oi 0) (oi 0) (oi 2) .unset .unset .unset .unset .unset .unset [(.double FP.dconst1)])) (fun t k => by
      refine XS.icmpYes X149.here hx rfl (pc0 := 106) (pc' := 139) rfl (hb hby o214_106) rfl (flt (by decide : ¬ ((2 : Int32) < (2 : Int32)))).2.1 (by decide) (by decide) ?_
      refine XS.aloadN X149.here hx rfl (hb hby o214_139) rfl rfl ?_
      refine XS.iloadN X149.here hx rfl (hb hby o214_140) rfl ?_
      refine own_ldA X149 hx hZ e149 f31_8 ⟨by decide, by decide⟩ (v := (.ref m0)) rfl (g := (oF_inv m 141 (oR sx) (oR el) (oi 0) (oi 0) (oi 2) .unset .unset .unset .unset .unset .unset [(.int 0), (.ref el)])) rfl rfl (hb hby o214_141) _ ?_
      refine XS.iloadN X149.here hx rfl (hb hby o214_142) rfl ?_
      show oW p e below T149 (oF_inv m 143 (oR sx) (oR el) (oi 0) (oi 0) (oi 2) .unset .unset .unset .unset .unset .unset [(.int 0), (.ref m0)]) _
      refine own_ldD X149 hx hZ e149 f31_20 ⟨by decide, by decide⟩ (v := (.double FP.dconst1)) rfl (g := (oF_inv m 143 (oR sx) (oR el) (oi 0) (oi 0) (oi 2) .unset .unset .unset .unset .unset .unset [(.int 0), (.ref m0)])) rfl rfl (hb hby o214_143) _ ?_
      exact k) ?_
    obtain ⟨_, vm150, B150, -, X150q, ⟨hr150, hB150⟩, st150⟩ := Jvm.LawKit.callS X149 hx (y := (⟨"java/lang/Math", "abs", "(D)D"⟩ : MethodName)) hown (mvT hZ ow76) (mvT hZ ow77) (mvT hZ ow78) (mvT hZ ow79) (by decide) (Jvm.Free.Fl.Abs.absD_pays (W := 0) FP.dconst1 (mvT hZ ow79) (by decide) (by decide)) (g := (oF_inv m 144 (oR sx) (oR el) (oi 0) (oi 0) (oi 2) .unset .unset .unset .unset .unset .unset [(.double FP.dconst1)])) rfl (by rw [hml]; rfl) (argsL := [(.double FP.dconst1)]) (rest := []) (lenOf own_pd_28D29D rfl) rfl (by show 2 * 0 + _ ≤ _; exact Nat.le_of_eq rfl) (hb hby o214_144) (fun _ _ => ⟨(by decide : 0 ≤ _), (by decide : 0 ≤ _), rfl, (own_s3 hPx hPy)⟩)
    subst hB150; subst hr150
    obtain ⟨T150, eT150⟩ : ∃ z, z = T149.setVm vm150 := ⟨_, rfl⟩
    dsimp only [Pt.U, Pt.locs, Pt.cells, Pt.slots] at X150q st150
    rw [← eT150] at X150q st150
    have X150 := X150q
    have e150 : T150.heap = h31 := by rw [eT150]; exact e149
    rw [own_f15 hPx hPy] at st150
    refine own_go st150 ?_
    refine own_go (A := oW p e below T150 (oF_inv m 166 (oR sx) (oR el) (oi 0) (oi 0) (oR m0) .unset .unset .unset .unset .unset .unset [(.ref m0), (.int 0), (.ref el)])) (fun t k => by
      refine X150.ldc2DoubleC hx hown (mvT hZ ow80) (g := (oF_inv m 147 (oR sx) (oR el) (oi 0) (oi 0) (oi 2) .unset .unset .unset .unset .unset .unset [(.double 4607182418800017408)])) rfl (hb hby o214_147) _ ?_
      refine XS.dcmpS X150.here hx rfl (hb hby o214_150) rfl (own_f17 hPx hPy) ?_
      refine XS.ifYes X150.here hx rfl (pc0 := 151) (pc' := 156) rfl (hb hby o214_151) rfl ((if0 _ _).trans (tlt (by decide : (0 : Int32) < (1 : Int32))).2.2.1) (by decide) (by decide) ?_
      refine XS.aloadN X150.here hx rfl (hb hby o214_156) rfl rfl ?_
      refine XS.iloadN X150.here hx rfl (hb hby o214_157) rfl ?_
      show oW p e below T150 (oF_inv m 158 (oR sx) (oR el) (oi 0) (oi 0) (oi 2) .unset .unset .unset .unset .unset .unset [(.int 0), (.ref el)]) _
      refine own_ldA X150 hx hZ e150 f31_8 ⟨by decide, by decide⟩ (v := (.ref m0)) rfl (g := (oF_inv m 158 (oR sx) (oR el) (oi 0) (oi 0) (oi 2) .unset .unset .unset .unset .unset .unset [(.int 0), (.ref el)])) rfl rfl (hb hby o214_158) _ ?_
      refine XS.astore X150.here hx rfl (hb hby o214_159) rfl rfl (l' := #[(oR sx), (oR el), (oi 0), (oi 0), (oR m0), .unset, .unset, .unset, .unset, .unset, .unset]) rfl ?_
      refine XS.aloadN X150.here hx rfl (hb hby o214_161) rfl rfl ?_
      refine XS.iloadN X150.here hx rfl (hb hby o214_162) rfl ?_
      refine XS.aloadN X150.here hx rfl (hb hby o214_163) rfl rfl ?_
      refine XS.iloadN X150.here hx rfl (hb hby o214_164) rfl ?_
      show oW p e below T150 (oF_inv m 165 (oR sx) (oR el) (oi 0) (oi 0) (oR m0) .unset .unset .unset .unset .unset .unset [(.int 0), (.ref el), (.int 0), (.ref el)]) _
      refine own_ldA X150 hx hZ e150 f31_8 ⟨by decide, by decide⟩ (v := (.ref m0)) rfl (g := (oF_inv m 165 (oR sx) (oR el) (oi 0) (oi 0) (oR m0) .unset .unset .unset .unset .unset .unset [(.int 0), (.ref el), (.int 0), (.ref el)])) rfl rfl (hb hby o214_165) _ ?_
      exact k) ?_
    obtain ⟨cl151, Ar151, q151, S151, N151, H151, G151⟩ := id (f31_8)
    have hi151 : ¬ ((0 : Int32) < 0 ∨ cl151.slots.size ≤ ((0 : Int32)).toNatClampNeg) := inb_of S151 ⟨by decide, by decide⟩
    obtain ⟨T152, h152, X152, e152, W152, st152⟩ := stR X150 hx hZ e150 Ar151 (j := (0 : Int32)) hi151 rfl (Sto.ofVA Ar151 q151 Oel (Ins.self (Gp15.keep K31))) (g := (oF_inv m 166 (oR sx) (oR el) (oi 0) (oi 0) (oR m0) .unset .unset .unset .unset .unset .unset [(.ref m0), (.int 0), (.ref el)])) rfl rfl (hb hby o214_166)
    refine own_go st152 ?_
    have V152 : Arv Z h152 el kel (.array .double) (2 : Int32) [(.ref m0), (.ref m1)] .null := Arv.set Ar151 q151 S151 N151 H151 G151 rfl W152 0 rfl (Nat.le_of_ble_eq_true rfl)
    have f152_6 : Arv Z h152 el kel (.array .double) (2 : Int32) [(.ref m0), (.ref m1)] .null := V152
    have f152_10 : Arv Z h152 i0 ki0 .double (2 : Int32) [(.double 0), (.double 0)] (.double 0) := f31_16.other W152 (od_i0_el)
    have f152_11 : Arv Z h152 i1 ki1 .double (2 : Int32) [(.double 0), (.double 0)] (.double 0) := f31_17.other W152 (od_i1_el)
    have f152_13 : Arv Z h152 vl kvl .double (2 : Int32) [(.double 0), (.double 0)] (.double 0) := f31_19.other W152 (od_vl_el)
    have f152_14 : Arv Z h152 m0 km0 .double (4 : Int32) [(.double FP.dconst1), (.double FP.dconst0), (.double FP.dconst1), (.double FP.dconst0)] (.double 0) := f31_20.other W152 (od_el_m0.symm)
    have f152_15 : Arv Z h152 m1 km1 .double (4 : Int32) [(.double FP.dconst1), (.double uy), (.double FP.dconst0), (.double FP.dconst1)] (.double 0) := V31.other W152 (od_el_m1.symm)
    have N152 := Fr.snoc X152 N31 g_el
    have Z152 : n0 ≤ h152.size := Nat.le_trans Z31 (Keep.of_wr W152).1
    have K152 : Keep h0 h152 [el, m0, m1, i0, i1, vl] := K31.wr W152 (Or.inl (List.mem_of_getElem? (i := 0) rfl))
    refine own_go (A := oW p e below T152 (oF_inv m 171 (oR sx) (oR el) (oi 0) (oi 0) (oR m0) .unset .unset .unset .unset .unset .unset [(.ref m0), (.int 0), (.ref el)])) (fun t k => by
      refine XS.aloadN X152.here hx rfl (hb hby o214_167) rfl rfl ?_
      refine XS.iloadN X152.here hx rfl (hb hby o214_168) rfl ?_
      refine XS.aload X152.here hx rfl (hb hby o214_169) rfl rfl ?_
      exact k) ?_
    obtain ⟨cl153, Ar153, q153, S153, N153, H153, G153⟩ := id (f152_6)
    have hi153 : ¬ ((0 : Int32) < 0 ∨ cl153.slots.size ≤ ((0 : Int32)).toNatClampNeg) := inb_of S153 ⟨by decide, by decide⟩
    obtain ⟨T154, h154, X154, e154, W154, st154⟩ := stR X152 hx hZ e152 Ar153 (j := (0 : Int32)) hi153 rfl (Sto.ofVA Ar153 q153 Oel (Ins.self (Gp15.keep K152))) (g := (oF_inv m 171 (oR sx) (oR el) (oi 0) (oi 0) (oR m0) .unset .unset .unset .unset .unset .unset [(.ref m0), (.int 0), (.ref el)])) rfl rfl (hb hby o214_171)
    refine own_go st154 ?_
    have V154 : Arv Z h154 el kel (.array .double) (2 : Int32) [(.ref m0), (.ref m1)] .null := Arv.set Ar153 q153 S153 N153 H153 G153 rfl W154 0 rfl (Nat.le_of_ble_eq_true rfl)
    have f154_6 : Arv Z h154 el kel (.array .double) (2 : Int32) [(.ref m0), (.ref m1)] .null := V154
    have f154_10 : Arv Z h154 i0 ki0 .double (2 : Int32) [(.double 0), (.double 0)] (.double 0) := f152_10.other W154 (od_i0_el)
    have f154_11 : Arv Z h154 i1 ki1 .double (2 : Int32) [(.double 0), (.double 0)] (.double 0) := f152_11.other W154 (od_i1_el)
    have f154_13 : Arv Z h154 vl kvl .double (2 : Int32) [(.double 0), (.double 0)] (.double 0) := f152_13.other W154 (od_vl_el)
    have f154_14 : Arv Z h154 m0 km0 .double (4 : Int32) [(.double FP.dconst1), (.double FP.dconst0), (.double FP.dconst1), (.double FP.dconst0)] (.double 0) := f152_14.other W154 (od_el_m0.symm)
    have f154_15 : Arv Z h154 m1 km1 .double (4 : Int32) [(.double FP.dconst1), (.double uy), (.double FP.dconst0), (.double FP.dconst1)] (.double 0) := f152_15.other W154 (od_el_m1.symm)
    have N154 := Fr.snoc X154 N152 g_el
    have Z154 : n0 ≤ h154.size := Nat.le_trans Z152 (Keep.of_wr W154).1
    have K154 : Keep h0 h154 [el, m0, m1, i0, i1, vl] := K152.wr W154 (Or.inl (List.mem_of_getElem? (i := 0) rfl))
    refine own_go (A := oW p e below T154 (oF_inv m 186 (oR sx) (oR el) (oi 0) (oi 0) (oR m0) (od FP.dconst1) .second (oi 0) .unset .unset .unset [(.ref sx), (.int 2), (.int 0)])) (fun t k => by
      refine XS.aloadN X154.here hx rfl (hb hby o214_172) rfl rfl ?_
      refine XS.iloadN X154.here hx rfl (hb hby o214_173) rfl ?_
      show oW p e below T154 (oF_inv m 174 (oR sx) (oR el) (oi 0) (oi 0) (oR m0) .unset .unset .unset .unset .unset .unset [(.int 0), (.ref el)]) _
      refine own_ldA X154 hx hZ e154 f154_6 ⟨by decide, by decide⟩ (v := (.ref m0)) rfl (g := (oF_inv m 174 (oR sx) (oR el) (oi 0) (oi 0) (oR m0) .unset .unset .unset .unset .unset .unset [(.int 0), (.ref el)])) rfl rfl (hb hby o214_174) _ ?_
      refine XS.iloadN X154.here hx rfl (hb hby o214_175) rfl ?_
      refine own_ldD X154 hx hZ e154 f154_14 ⟨by decide, by decide⟩ (v := (.double FP.dconst1)) rfl (g := (oF_inv m 176 (oR sx) (oR el) (oi 0) (oi 0) (oR m0) .unset .unset .unset .unset .unset .unset [(.int 0), (.ref m0)])) rfl rfl (hb hby o214_176) _ ?_
      refine XS.dstore X154.here hx rfl (hb hby o214_177) rfl (l' := #[(oR sx), (oR el), (oi 0), (oi 0), (oR m0), (od FP.dconst1), .second, .unset, .unset, .unset, .unset]) rfl ?_
      refine XS.iconst X154.here hx rfl (hb hby o214_179) ?_
      refine XS.istore X154.here hx rfl (hb hby o214_180) rfl (l' := #[(oR sx), (oR el), (oi 0), (oi 0), (oR m0), (od FP.dconst1), .second, (oi 0), .unset, .unset, .unset]) rfl ?_
      show oW p e below T154 (oF_inv m 182 (oR sx) (oR el) (oi 0) (oi 0) (oR m0) (od FP.dconst1) .second (oi 0) .unset .unset .unset []) _
      refine XS.iload X154.here hx rfl (hb hby o214_182) rfl ?_
      refine XS.iconst X154.here hx rfl (hb hby o214_184) ?_
      refine XS.aloadN X154.here hx rfl (hb hby o214_185) rfl rfl ?_
      exact k) ?_
    obtain ⟨T155, X155, e155, st155⟩ := getF X154 hx hZ hown (host := "") (Or.inl ow25) Via.refl e154 (Gp1.keep K154 nn_sx) (g := (oF_inv m 186 (oR sx) (oR el) (oi 0) (oi 0) (oR m0) (od FP.dconst1) .second (oi 0) .unset .unset .unset [(.ref sx), (.int 2), (.int 0)])) rfl rfl (hb hby o214_186)
    refine own_go st155 ?_
    refine own_go (A := oW p e below T155 (oF_inv m 203 (oR sx) (oR el) (oi 0) (oi 0) (oR m0) (od FP.dconst1) .second (oi 0) .unset .unset .unset [(.double 4607182418800017408), (.int 0), (.ref m0)])) (fun t k => by
      refine XS.imul X155.here hx rfl (hb hby o214_189) rfl ?_
      refine XS.icmpNo X155.here hx rfl (hb hby o214_190) rfl (tlt (by decide : (0 : Int32) < (4 : Int32))).2.1 ?_
      refine XS.aloadN X155.here hx rfl (hb hby o214_193) rfl rfl ?_
      show oW p e below T155 (oF_inv m 194 (oR sx) (oR el) (oi 0) (oi 0) (oR m0) (od FP.dconst1) .second (oi 0) .unset .unset .unset [(.ref el)]) _
      refine XS.iloadN X155.here hx rfl (hb hby o214_194) rfl ?_
      refine own_ldA X155 hx hZ e155 f154_6 ⟨by decide, by decide⟩ (v := (.ref m0)) rfl (g := (oF_inv m 195 (oR sx) (oR el) (oi 0) (oi 0) (oR m0) (od FP.dconst1) .second (oi 0) .unset .unset .unset [(.int 0), (.ref el)])) rfl rfl (hb hby o214_195) _ ?_
      refine XS.iload X155.here hx rfl (hb hby o214_196) rfl ?_
      refine XT.dup2 X155.here hx rfl (hb hby o214_198) rfl rfl rfl ?_
      refine own_ldD X155 hx hZ e155 f154_14 ⟨by decide, by decide⟩ (v := (.double FP.dconst1)) rfl (g := (oF_inv m 199 (oR sx) (oR el) (oi 0) (oi 0) (oR m0) (od FP.dconst1) .second (oi 0) .unset .unset .unset [(.int 0), (.ref m0), (.int 0), (.ref m0)])) rfl rfl (hb hby o214_199) _ ?_
      refine XS.dload X155.here hx rfl (hb hby o214_200) rfl ?_
      show oW p e below T155 (oF_inv m 202 (oR sx) (oR el) (oi 0) (oi 0) (oR m0) (od FP.dconst1) .second (oi 0) .unset .unset .unset [(.double FP.dconst1), (.double FP.dconst1), (.int 0), (.ref m0)]) _
      refine XS.ddivS X155.here hx rfl (hb hby o214_202) rfl (own_f18n hPx hPy) (own_f18 hPx hPy) ?_
      exact k) ?_
    obtain ⟨T156, h156, X156, e156, W156, U156, st156⟩ := own_stD X155 hx hZ e155 f154_14 (j := (0 : Int32)) ⟨by decide, by decide⟩ 0 rfl (Nat.le_of_ble_eq_true rfl) (g := (oF_inv m 203 (oR sx) (oR el) (oi 0) (oi 0) (oR m0) (od FP.dconst1) .second (oi 0) .unset .unset .unset [(.double 4607182418800017408), (.int 0), (.ref m0)])) rfl rfl (hb hby o214_203)
    refine own_go st156 ?_
    have V156 : Arv Z h156 m0 km0 .double (4 : Int32) [(.double 4607182418800017408), (.double FP.dconst0), (.double FP.dconst1), (.double FP.dconst0)] (.double 0) := U156
    have f156_6 : Arv Z h156 el kel (.array .double) (2 : Int32) [(.ref m0), (.ref m1)] .null := f154_6.other W156 (od_el_m0)
    have f156_10 : Arv Z h156 i0 ki0 .double (2 : Int32) [(.double 0), (.double 0)] (.double 0) := f154_10.other W156 (od_i0_m0)
    have f156_11 : Arv Z h156 i1 ki1 .double (2 : Int32) [(.double 0), (.double 0)] (.double 0) := f154_11.other W156 (od_i1_m0)
    have f156_13 : Arv Z h156 vl kvl .double (2 : Int32) [(.double 0), (.double 0)] (.double 0) := f154_13.other W156 (od_vl_m0)
    have f156_15 : Arv Z h156 m1 km1 .double (4 : Int32) [(.double FP.dconst1), (.double uy), (.double FP.dconst0), (.double FP.dconst1)] (.double 0) := f154_15.other W156 (od_m0_m1.symm)
    have N156 := Fr.snoc X156 N154 g_m0
    have Z156 : n0 ≤ h156.size := Nat.le_trans Z154 (Keep.of_wr W156).1
    have K156 : Keep h0 h156 [el, m0, m1, i0, i1, vl] := K154.wr W156 (Or.inl (List.mem_of_getElem? (i := 1) rfl))
    refine own_go (A := oW p e below T156 (oF_inv m 186 (oR sx) (oR el) (oi 0) (oi 0) (oR m0) (od FP.dconst1) .second (oi 1) .unset .unset .unset [(.ref sx), (.int 2), (.int 1)])) (fun t k => by
      refine XS.iinc X156.here hx rfl (hb hby o214_204) rfl (l' := #[(oR sx), (oR el), (oi 0), (oi 0), (oR m0), (od FP.dconst1), .second, (oi 1), .unset, .unset, .unset]) rfl ?_
      refine XS.goto X156.here hx rfl (pc0 := 207) (pc' := 182) rfl (hb hby o214_207) (by decide) (by decide) ?_
      refine XS.iload X156.here hx rfl (hb hby o214_182) rfl ?_
      refine XS.iconst X156.here hx rfl (hb hby o214_184) ?_
      refine XS.aloadN X156.here hx rfl (hb hby o214_185) rfl rfl ?_
      exact k) ?_
    obtain ⟨T157, X157, e157, st157⟩ := getF X156 hx hZ hown (host := "") (Or.inl ow25) Via.refl e156 (Gp1.keep K156 nn_sx) (g := (oF_inv m 186 (oR sx) (oR el) (oi 0) (oi 0) (oR m0) (od FP.dconst1) .second (oi 1) .unset .unset .unset [(.ref sx), (.int 2), (.int 1)])) rfl rfl (hb hby o214_186)
    refine own_go st157 ?_
    refine own_go (A := oW p e below T157 (oF_inv m 203 (oR sx) (oR el) (oi 0) (oi 0) (oR m0) (od FP.dconst1) .second (oi 1) .unset .unset .unset [(.double 0), (.int 1), (.ref m0)])) (fun t k => by
      refine XS.imul X157.here hx rfl (hb hby o214_189) rfl ?_
      refine XS.icmpNo X157.here hx rfl (hb hby o214_190) rfl (tlt (by decide : (1 : Int32) < (4 : Int32))).2.1 ?_
      refine XS.aloadN X157.here hx rfl (hb hby o214_193) rfl rfl ?_
      refine XS.iloadN X157.here hx rfl (hb hby o214_194) rfl ?_
      refine own_ldA X157 hx hZ e157 f156_6 ⟨by decide, by decide⟩ (v := (.ref m0)) rfl (g := (oF_inv m 195 (oR sx) (oR el) (oi 0) (oi 0) (oR m0) (od FP.dconst1) .second (oi 1) .unset .unset .unset [(.int 0), (.ref el)])) rfl rfl (hb hby o214_195) _ ?_
      refine XS.iload X157.here hx rfl (hb hby o214_196) rfl ?_
      show oW p e below T157 (oF_inv m 198 (oR sx) (oR el) (oi 0) (oi 0) (oR m0) (od FP.dconst1) .second (oi 1) .unset .unset .unset [(.int 1), (.ref m0)]) _
      refine XT.dup2 X157.here hx rfl (hb hby o214_198) rfl rfl rfl ?_
      refine own_ldD X157 hx hZ e157 V156 ⟨by decide, by decide⟩ (v := (.double FP.dconst0)) rfl (g := (oF_inv m 199 (oR sx) (oR el) (oi 0) (oi 0) (oR m0) (od FP.dconst1) .second (oi 1) .unset .unset .unset [(.int 1), (.ref m0), (.int 1), (.ref m0)])) rfl rfl (hb hby o214_199) _ ?_
      refine XS.dload X157.here hx rfl (hb hby o214_200) rfl ?_
      refine XS.ddivS X157.here hx rfl (hb hby o214_202) rfl (own_f19n hPx hPy) (own_f19 hPx hPy) ?_
      exact k) ?_
    obtain ⟨T158, h158, X158, e158, W158, U158, st158⟩ := own_stD X157 hx hZ e157 V156 (j := (1 : Int32)) ⟨by decide, by decide⟩ 1 rfl (Nat.le_of_ble_eq_true rfl) (g := (oF_inv m 203 (oR sx) (oR el) (oi 0) (oi 0) (oR m0) (od FP.dconst1) .second (oi 1) .unset .unset .unset [(.double 0), (.int 1), (.ref m0)])) rfl rfl (hb hby o214_203)
    refine own_go st158 ?_
    have V158 : Arv Z h158 m0 km0 .double (4 : Int32) [(.double 4607182418800017408), (.double 0), (.double FP.dconst1), (.double FP.dconst0)] (.double 0) := U158
    have f158_6 : Arv Z h158 el kel (.array .double) (2 : Int32) [(.ref m0), (.ref m1)] .null := f156_6.other W158 (od_el_m0)
    have f158_10 : Arv Z h158 i0 ki0 .double (2 : Int32) [(.double 0), (.double 0)] (.double 0) := f156_10.other W158 (od_i0_m0)
    have f158_11 : Arv Z h158 i1 ki1 .double (2 : Int32) [(.double 0), (.double 0)] (.double 0) := f156_11.other W158 (od_i1_m0)
    have f158_13 : Arv Z h158 vl kvl .double (2 : Int32) [(.double 0), (.double 0)] (.double 0) := f156_13.other W158 (od_vl_m0)
    have f158_14 : Arv Z h158 m1 km1 .double (4 : Int32) [(.double FP.dconst1), (.double uy), (.double FP.dconst0), (.double FP.dconst1)] (.double 0) := f156_15.other W158 (od_m0_m1.symm)
    have N158 := Fr.snoc X158 N156 g_m0
    have Z158 : n0 ≤ h158.size := Nat.le_trans Z156 (Keep.of_wr W158).1
    have K158 : Keep h0 h158 [el, m0, m1, i0, i1, vl] := K156.wr W158 (Or.inl (List.mem_of_getElem? (i := 1) rfl))
    refine own_go (A := oW p e below T158 (oF_inv m 186 (oR sx) (oR el) (oi 0) (oi 0) (oR m0) (od FP.dconst1) .second (oi 2) .unset .unset .unset [(.ref sx), (.int 2), (.int 2)])) (fun t k => by
      refine XS.iinc X158.here hx rfl (hb hby o214_204) rfl (l' := #[(oR sx), (oR el), (oi 0), (oi 0), (oR m0), (od FP.dconst1), .second, (oi 2), .unset, .unset, .unset]) rfl ?_
      refine XS.goto X158.here hx rfl (pc0 := 207) (pc' := 182) rfl (hb hby o214_207) (by decide) (by decide) ?_
      show oW p e below T158 (oF_inv m 182 (oR sx) (oR el) (oi 0) (oi 0) (oR m0) (od FP.dconst1) .second (oi 2) .unset .unset .unset []) _
      refine XS.iload X158.here hx rfl (hb hby o214_182) rfl ?_
      refine XS.iconst X158.here hx rfl (hb hby o214_184) ?_
      refine XS.aloadN X158.here hx rfl (hb hby o214_185) rfl rfl ?_
      exact k) ?_
    obtain ⟨T159, X159, e159, st159⟩ := getF X158 hx hZ hown (host := "") (Or.inl ow25) Via.refl e158 (Gp1.keep K158 nn_sx) (g := (oF_inv m 186 (oR sx) (oR el) (oi 0) (oi 0) (oR m0) (od FP.dconst1) .second (oi 2) .unset .unset .unset [(.ref sx), (.int 2), (.int 2)])) rfl rfl (hb hby o214_186)
    refine own_go st159 ?_
    refine own_go (A := oW p e below T159 (oF_inv m 203 (oR sx) (oR el) (oi 0) (oi 0) (oR m0) (od FP.dconst1) .second (oi 2) .unset .unset .unset [(.double 4607182418800017408), (.int 2), (.ref m0)])) (fun t k => by
      refine XS.imul X159.here hx rfl (hb hby o214_189) rfl ?_
      refine XS.icmpNo X159.here hx rfl (hb hby o214_190) rfl (tlt (by decide : (2 : Int32) < (4 : Int32))).2.1 ?_
      refine XS.aloadN X159.here hx rfl (hb hby o214_193) rfl rfl ?_
      show oW p e below T159 (oF_inv m 194 (oR sx) (oR el) (oi 0) (oi 0) (oR m0) (od FP.dconst1) .second (oi 2) .unset .unset .unset [(.ref el)]) _
      refine XS.iloadN X159.here hx rfl (hb hby o214_194) rfl ?_
      refine own_ldA X159 hx hZ e159 f158_6 ⟨by decide, by decide⟩ (v := (.ref m0)) rfl (g := (oF_inv m 195 (oR sx) (oR el) (oi 0) (oi 0) (oR m0) (od FP.dconst1) .second (oi 2) .unset .unset .unset [(.int 0), (.ref el)])) rfl rfl (hb hby o214_195) _ ?_
      refine XS.iload X159.here hx rfl (hb hby o214_196) rfl ?_
      refine XT.dup2 X159.here hx rfl (hb hby o214_198) rfl rfl rfl ?_
      refine own_ldD X159 hx hZ e159 V158 ⟨by decide, by decide⟩ (v := (.double FP.dconst1)) rfl (g := (oF_inv m 199 (oR sx) (oR el) (oi 0) (oi 0) (oR m0) (od FP.dconst1) .second (oi 2) .unset .unset .unset [(.int 2), (.ref m0), (.int 2), (.ref m0)])) rfl rfl (hb hby o214_199) _ ?_
      refine XS.dload X159.here hx rfl (hb hby o214_200) rfl ?_
      show oW p e below T159 (oF_inv m 202 (oR sx) (oR el) (oi 0) (oi 0) (oR m0) (od FP.dconst1) .second (oi 2) .unset .unset .unset [(.double FP.dconst1), (.double FP.dconst1), (.int 2), (.ref m0)]) _
      refine XS.ddivS X159.here hx rfl (hb hby o214_202) rfl (own_f18n hPx hPy) (own_f18 hPx hPy) ?_
      exact k) ?_
    obtain ⟨T160, h160, X160, e160, W160, U160, st160⟩ := own_stD X159 hx hZ e159 V158 (j := (2 : Int32)) ⟨by decide, by decide⟩ 2 rfl (Nat.le_of_ble_eq_true rfl) (g := (oF_inv m 203 (oR sx) (oR el) (oi 0) (oi 0) (oR m0) (od FP.dconst1) .second (oi 2) .unset .unset .unset [(.double 4607182418800017408), (.int 2), (.ref m0)])) rfl rfl (hb hby o214_203)
    refine own_go st160 ?_
    have V160 : Arv Z h160 m0 km0 .double (4 : Int32) [(.double 4607182418800017408), (.double 0), (.double 4607182418800017408), (.double FP.dconst0)] (.double 0) := U160
    have f160_6 : Arv Z h160 el kel (.array .double) (2 : Int32) [(.ref m0), (.ref m1)] .null := f158_6.other W160 (od_el_m0)
    have f160_10 : Arv Z h160 i0 ki0 .double (2 : Int32) [(.double 0), (.double 0)] (.double 0) := f158_10.other W160 (od_i0_m0)
    have f160_11 : Arv Z h160 i1 ki1 .double (2 : Int32) [(.double 0), (.double 0)] (.double 0) := f158_11.other W160 (od_i1_m0)
    have f160_13 : Arv Z h160 vl kvl .double (2 : Int32) [(.double 0), (.double 0)] (.double 0) := f158_13.other W160 (od_vl_m0)
    have f160_14 : Arv Z h160 m1 km1 .double (4 : Int32) [(.double FP.dconst1), (.double uy), (.double FP.dconst0), (.double FP.dconst1)] (.double 0) := f158_14.other W160 (od_m0_m1.symm)
    have N160 := Fr.snoc X160 N158 g_m0
    have Z160 : n0 ≤ h160.size := Nat.le_trans Z158 (Keep.of_wr W160).1
    have K160 : Keep h0 h160 [el, m0, m1, i0, i1, vl] := K158.wr W160 (Or.inl (List.mem_of_getElem? (i := 1) rfl))
    refine own_go (A := oW p e below T160 (oF_inv m 186 (oR sx) (oR el) (oi 0) (oi 0) (oR m0) (od FP.dconst1) .second (oi 3) .unset .unset .unset [(.ref sx), (.int 2), (.int 3)])) (fun t k => by
      refine XS.iinc X160.here hx rfl (hb hby o214_204) rfl (l' := #[(oR sx), (oR el), (oi 0), (oi 0), (oR m0), (od FP.dconst1), .second, (oi 3), .unset, .unset, .unset]) rfl ?_
      refine XS.goto X160.here hx rfl (pc0 := 207) (pc' := 182) rfl (hb hby o214_207) (by decide) (by decide) ?_
      refine XS.iload X160.here hx rfl (hb hby o214_182) rfl ?_
      refine XS.iconst X160.here hx rfl (hb hby o214_184) ?_
      refine XS.aloadN X160.here hx rfl (hb hby o214_185) rfl rfl ?_
      exact k) ?_
    obtain ⟨T161, X161, e161, st161⟩ := getF X160 hx hZ hown (host := "") (Or.inl ow25) Via.refl e160 (Gp1.keep K160 nn_sx) (g := (oF_inv m 186 (oR sx) (oR el) (oi 0) (oi 0) (oR m0) (od FP.dconst1) .second (oi 3) .unset .unset .unset [(.ref sx), (.int 2), (.int 3)])) rfl rfl (hb hby o214_186)
    refine own_go st161 ?_
    refine own_go (A := oW p e below T161 (oF_inv m 203 (oR sx) (oR el) (oi 0) (oi 0) (oR m0) (od FP.dconst1) .second (oi 3) .unset .unset .unset [(.double 0), (.int 3), (.ref m0)])) (fun t k => by
      refine XS.imul X161.here hx rfl (hb hby o214_189) rfl ?_
      refine XS.icmpNo X161.here hx rfl (hb hby o214_190) rfl (tlt (by decide : (3 : Int32) < (4 : Int32))).2.1 ?_
      refine XS.aloadN X161.here hx rfl (hb hby o214_193) rfl rfl ?_
      refine XS.iloadN X161.here hx rfl (hb hby o214_194) rfl ?_
      refine own_ldA X161 hx hZ e161 f160_6 ⟨by decide, by decide⟩ (v := (.ref m0)) rfl (g := (oF_inv m 195 (oR sx) (oR el) (oi 0) (oi 0) (oR m0) (od FP.dconst1) .second (oi 3) .unset .unset .unset [(.int 0), (.ref el)])) rfl rfl (hb hby o214_195) _ ?_
      refine XS.iload X161.here hx rfl (hb hby o214_196) rfl ?_
      show oW p e below T161 (oF_inv m 198 (oR sx) (oR el) (oi 0) (oi 0) (oR m0) (od FP.dconst1) .second (oi 3) .unset .unset .unset [(.int 3), (.ref m0)]) _
      refine XT.dup2 X161.here hx rfl (hb hby o214_198) rfl rfl rfl ?_
      refine own_ldD X161 hx hZ e161 V160 ⟨by decide, by decide⟩ (v := (.double FP.dconst0)) rfl (g := (oF_inv m 199 (oR sx) (oR el) (oi 0) (oi 0) (oR m0) (od FP.dconst1) .second (oi 3) .unset .unset .unset [(.int 3), (.ref m0), (.int 3), (.ref m0)])) rfl rfl (hb hby o214_199) _ ?_
      refine XS.dload X161.here hx rfl (hb hby o214_200) rfl ?_
      refine XS.ddivS X161.here hx rfl (hb hby o214_202) rfl (own_f19n hPx hPy) (own_f19 hPx hPy) ?_
      exact k) ?_
    obtain ⟨T162, h162, X162, e162, W162, U162, st162⟩ := own_stD X161 hx hZ e161 V160 (j := (3 : Int32)) ⟨by decide, by decide⟩ 3 rfl (Nat.le_of_ble_eq_true rfl) (g := (oF_inv m 203 (oR sx) (oR el) (oi 0) (oi 0) (oR m0) (od FP.dconst1) .second (oi 3) .unset .unset .unset [(.double 0), (.int 3), (.ref m0)])) rfl rfl (hb hby o214_203)
    refine own_go st162 ?_
    have V162 : Arv Z h162 m0 km0 .double (4 : Int32) [(.double 4607182418800017408), (.double 0), (.double 4607182418800017408), (.double 0)] (.double 0) := U162
    have f162_6 : Arv Z h162 el kel (.array .double) (2 : Int32) [(.ref m0), (.ref m1)] .null := f160_6.other W162 (od_el_m0)
    have f162_10 : Arv Z h162 i0 ki0 .double (2 : Int32) [(.double 0), (.double 0)] (.double 0) := f160_10.other W162 (od_i0_m0)
    have f162_11 : Arv Z h162 i1 ki1 .double (2 : Int32) [(.double 0), (.double 0)] (.double 0) := f160_11.other W162 (od_i1_m0)
    have f162_13 : Arv Z h162 vl kvl .double (2 : Int32) [(.double 0), (.double 0)] (.double 0) := f160_13.other W162 (od_vl_m0)
    have f162_14 : Arv Z h162 m1 km1 .double (4 : Int32) [(.double FP.dconst1), (.double uy), (.double FP.dconst0), (.double FP.dconst1)] (.double 0) := f160_14.other W162 (od_m0_m1.symm)
    have N162 := Fr.snoc X162 N160 g_m0
    have Z162 : n0 ≤ h162.size := Nat.le_trans Z160 (Keep.of_wr W162).1
    have K162 : Keep h0 h162 [el, m0, m1, i0, i1, vl] := K160.wr W162 (Or.inl (List.mem_of_getElem? (i := 1) rfl))
    refine own_go (A := oW p e below T162 (oF_inv m 186 (oR sx) (oR el) (oi 0) (oi 0) (oR m0) (od FP.dconst1) .second (oi 4) .unset .unset .unset [(.ref sx), (.int 2), (.int 4)])) (fun t k => by
      refine XS.iinc X162.here hx rfl (hb hby o214_204) rfl (l' := #[(oR sx), (oR el), (oi 0), (oi 0), (oR m0), (od FP.dconst1), .second, (oi 4), .unset, .unset, .unset]) rfl ?_
      refine XS.goto X162.here hx rfl (pc0 := 207) (pc' := 182) rfl (hb hby o214_207) (by decide) (by decide) ?_
      show oW p e below T162 (oF_inv m 182 (oR sx) (oR el) (oi 0) (oi 0) (oR m0) (od FP.dconst1) .second (oi 4) .unset .unset .unset []) _
      refine XS.iload X162.here hx rfl (hb hby o214_182) rfl ?_
      refine XS.iconst X162.here hx rfl (hb hby o214_184) ?_
      refine XS.aloadN X162.here hx rfl (hb hby o214_185) rfl rfl ?_
      exact k) ?_
    obtain ⟨T163, X163, e163, st163⟩ := getF X162 hx hZ hown (host := "") (Or.inl ow25) Via.refl e162 (Gp1.keep K162 nn_sx) (g := (oF_inv m 186 (oR sx) (oR el) (oi 0) (oi 0) (oR m0) (od FP.dconst1) .second (oi 4) .unset .unset .unset [(.ref sx), (.int 2), (.int 4)])) rfl rfl (hb hby o214_186)
    refine own_go st163 ?_
    refine own_go (A := oW p e below T163 (oF_inv m 216 (oR sx) (oR el) (oi 0) (oi 0) (oR m0) (od FP.dconst1) .second (oi 0) .unset .unset .unset [(.ref sx), (.int 0)])) (fun t k => by
      refine XS.imul X163.here hx rfl (hb hby o214_189) rfl ?_
      refine XS.icmpYes X163.here hx rfl (pc0 := 190) (pc' := 210) rfl (hb hby o214_190) rfl (flt (by decide : ¬ ((4 : Int32) < (4 : Int32)))).2.1 (by decide) (by decide) ?_
      refine XS.iconst X163.here hx rfl (hb hby o214_210) ?_
      show oW p e below T163 (oF_inv m 211 (oR sx) (oR el) (oi 0) (oi 0) (oR m0) (od FP.dconst1) .second (oi 4) .unset .unset .unset [(.int 0)]) _
      refine XS.istore X163.here hx rfl (hb hby o214_211) rfl (l' := #[(oR sx), (oR el), (oi 0), (oi 0), (oR m0), (od FP.dconst1), .second, (oi 0), .unset, .unset, .unset]) rfl ?_
      refine XS.iload X163.here hx rfl (hb hby o214_213) rfl ?_
      refine XS.aloadN X163.here hx rfl (hb hby o214_215) rfl rfl ?_
      exact k) ?_
    obtain ⟨T164, X164, e164, st164⟩ := getF X163 hx hZ hown (host := "") (Or.inl ow25) Via.refl e163 (Gp1.keep K162 nn_sx) (g := (oF_inv m 216 (oR sx) (oR el) (oi 0) (oi 0) (oR m0) (od FP.dconst1) .second (oi 0) .unset .unset .unset [(.ref sx), (.int 0)])) rfl rfl (hb hby o214_216)
    refine own_go st164 ?_
    refine own_go (A := oW p e below T164 (oF_inv m 216 (oR sx) (oR el) (oi 0) (oi 0) (oR m0) (od FP.dconst1) .second (oi 1) (od 4607182418800017408) .second .unset [(.ref sx), (.int 1)])) (fun t k => by
      refine XS.icmpNo X164.here hx rfl (hb hby o214_219) rfl (tlt (by decide : (0 : Int32) < (2 : Int32))).2.1 ?_
      refine XS.aloadN X164.here hx rfl (hb hby o214_222) rfl rfl ?_
      refine XS.iload X164.here hx rfl (hb hby o214_223) rfl ?_
      show oW p e below T164 (oF_inv m 225 (oR sx) (oR el) (oi 0) (oi 0) (oR m0) (od FP.dconst1) .second (oi 0) .unset .unset .unset [(.int 0), (.ref el)]) _
      refine own_ldA X164 hx hZ e164 f162_6 ⟨by decide, by decide⟩ (v := (.ref m0)) rfl (g := (oF_inv m 225 (oR sx) (oR el) (oi 0) (oi 0) (oR m0) (od FP.dconst1) .second (oi 0) .unset .unset .unset [(.int 0), (.ref el)])) rfl rfl (hb hby o214_225) _ ?_
      refine XS.iloadN X164.here hx rfl (hb hby o214_226) rfl ?_
      refine own_ldD X164 hx hZ e164 V162 ⟨by decide, by decide⟩ (v := (.double 4607182418800017408)) rfl (g := (oF_inv m 227 (oR sx) (oR el) (oi 0) (oi 0) (oR m0) (od FP.dconst1) .second (oi 0) .unset .unset .unset [(.int 0), (.ref m0)])) rfl rfl (hb hby o214_227) _ ?_
      refine XS.dstore X164.here hx rfl (hb hby o214_228) rfl (l' := #[(oR sx), (oR el), (oi 0), (oi 0), (oR m0), (od FP.dconst1), .second, (oi 0), (od 4607182418800017408), .second, .unset]) rfl ?_
      refine XS.iload X164.here hx rfl (hb hby o214_230) rfl ?_
      refine XS.iloadN X164.here hx rfl (hb hby o214_232) rfl ?_
      show oW p e below T164 (oF_inv m 233 (oR sx) (oR el) (oi 0) (oi 0) (oR m0) (od FP.dconst1) .second (oi 0) (od 4607182418800017408) .second .unset [(.int 0), (.int 0)]) _
      refine XS.icmpYes X164.here hx rfl (pc0 := 233) (pc' := 282) rfl (hb hby o214_233) rfl (teq (by decide : (0 : Int32) = (0 : Int32))).1 (by decide) (by decide) ?_
      refine XS.iinc X164.here hx rfl (hb hby o214_282) rfl (l' := #[(oR sx), (oR el), (oi 0), (oi 0), (oR m0), (od FP.dconst1), .second, (oi 1), (od 4607182418800017408), .second, .unset]) rfl ?_
      refine XS.goto X164.here hx rfl (pc0 := 285) (pc' := 213) rfl (hb hby o214_285) (by decide) (by decide) ?_
      refine XS.iload X164.here hx rfl (hb hby o214_213) rfl ?_
      refine XS.aloadN X164.here hx rfl (hb hby o214_215) rfl rfl ?_
      exact k) ?_
    obtain ⟨T165, X165, e165, st165⟩ := getF X164 hx hZ hown (host := "") (Or.inl ow25) Via.refl e164 (Gp1.keep K162 nn_sx) (g := (oF_inv m 216 (oR sx) (oR el) (oi 0) (oi 0) (oR m0) (od FP.dconst1) .second (oi 1) (od 4607182418800017408) .second .unset [(.ref sx), (.int 1)])) rfl rfl (hb hby o214_216)
    refine own_go st165 ?_
    refine own_go (A := oW p e below T165 (oF_inv m 250 (oR sx) (oR el) (oi 0) (oi 0) (oR m0) (od FP.dconst1) .second (oi 1) (od FP.dconst1) .second (oi 0) [(.ref sx), (.int 2), (.int 0)])) (fun t k => by
      refine XS.icmpNo X165.here hx rfl (hb hby o214_219) rfl (tlt (by decide : (1 : Int32) < (2 : Int32))).2.1 ?_
      show oW p e below T165 (oF_inv m 222 (oR sx) (oR el) (oi 0) (oi 0) (oR m0) (od FP.dconst1) .second (oi 1) (od 4607182418800017408) .second .unset []) _
      refine XS.aloadN X165.here hx rfl (hb hby o214_222) rfl rfl ?_
      refine XS.iload X165.here hx rfl (hb hby o214_223) rfl ?_
      refine own_ldA X165 hx hZ e165 f162_6 ⟨by decide, by decide⟩ (v := (.ref m1)) rfl (g := (oF_inv m 225 (oR sx) (oR el) (oi 0) (oi 0) (oR m0) (od FP.dconst1) .second (oi 1) (od 4607182418800017408) .second .unset [(.int 1), (.ref el)])) rfl rfl (hb hby o214_225) _ ?_
      refine XS.iloadN X165.here hx rfl (hb hby o214_226) rfl ?_
      refine own_ldD X165 hx hZ e165 f162_14 ⟨by decide, by decide⟩ (v := (.double FP.dconst1)) rfl (g := (oF_inv m 227 (oR sx) (oR el) (oi 0) (oi 0) (oR m0) (od FP.dconst1) .second (oi 1) (od 4607182418800017408) .second .unset [(.int 0), (.ref m1)])) rfl rfl (hb hby o214_227) _ ?_
      refine XS.dstore X165.here hx rfl (hb hby o214_228) rfl (l' := #[(oR sx), (oR el), (oi 0), (oi 0), (oR m0), (od FP.dconst1), .second, (oi 1), (od FP.dconst1), .second, .unset]) rfl ?_
      show oW p e below T165 (oF_inv m 230 (oR sx) (oR el) (oi 0) (oi 0) (oR m0) (od FP.dconst1) .second (oi 1) (od FP.dconst1) .second .unset []) _
      refine XS.iload X165.here hx rfl (hb hby o214_230) rfl ?_
      refine XS.iloadN X165.here hx rfl (hb hby o214_232) rfl ?_
      refine XS.icmpNo X165.here hx rfl (hb hby o214_233) rfl (feq (by decide : ¬ ((1 : Int32) = (0 : Int32)))).1 ?_
      refine XS.dload X165.here hx rfl (hb hby o214_236) rfl ?_
      refine XS.dconst0 X165.here hx rfl (hb hby o214_238) rfl ?_
      refine XS.dcmpS X165.here hx rfl (hb hby o214_239) rfl (own_f20 hPx hPy) ?_
      show oW p e below T165 (oF_inv m 240 (oR sx) (oR el) (oi 0) (oi 0) (oR m0) (od FP.dconst1) .second (oi 1) (od FP.dconst1) .second .unset [(.int 1)]) _
      refine XS.ifNo X165.here hx rfl (hb hby o214_240) rfl ((if0 _ _).trans (feq (by decide : ¬ ((1 : Int32) = (0 : Int32)))).1) ?_
      refine XS.iconst X165.here hx rfl (hb hby o214_243) ?_
      refine XS.istore X165.here hx rfl (hb hby o214_244) rfl (l' := #[(oR sx), (oR el), (oi 0), (oi 0), (oR m0), (od FP.dconst1), .second, (oi 1), (od FP.dconst1), .second, (oi 0)]) rfl ?_
      refine XS.iload X165.here hx rfl (hb hby o214_246) rfl ?_
      refine XS.iconst X165.here hx rfl (hb hby o214_248) ?_
      refine XS.aloadN X165.here hx rfl (hb hby o214_249) rfl rfl ?_
      exact k) ?_
    obtain ⟨T166, X166, e166, st166⟩ := getF X165 hx hZ hown (host := "") (Or.inl ow25) Via.refl e165 (Gp1.keep K162 nn_sx) (g := (oF_inv m 250 (oR sx) (oR el) (oi 0) (oi 0) (oR m0) (od FP.dconst1) .second (oi 1) (od FP.dconst1) .second (oi 0) [(.ref sx), (.int 2), (.int 0)])) rfl rfl (hb hby o214_250)
    refine own_go st166 ?_
    refine own_go (A := oW p e below T166 (oF_inv m 275 (oR sx) (oR el) (oi 0) (oi 0) (oR m0) (od FP.dconst1) .second (oi 1) (od FP.dconst1) .second (oi 0) [(.double 0), (.int 0), (.ref m1)])) (fun t k => by
      refine XS.imul X166.here hx rfl (hb hby o214_253) rfl ?_
      refine XS.icmpNo X166.here hx rfl (hb hby o214_254) rfl (tlt (by decide : (0 : Int32) < (4 : Int32))).2.1 ?_
      refine XS.aloadN X166.here hx rfl (hb hby o214_257) rfl rfl ?_
      refine XS.iload X166.here hx rfl (hb hby o214_258) rfl ?_
      refine own_ldA X166 hx hZ e166 f162_6 ⟨by decide, by decide⟩ (v := (.ref m1)) rfl (g := (oF_inv m 260 (oR sx) (oR el) (oi 0) (oi 0) (oR m0) (od FP.dconst1) .second (oi 1) (od FP.dconst1) .second (oi 0) [(.int 1), (.ref el)])) rfl rfl (hb hby o214_260) _ ?_
      refine XS.iload X166.here hx rfl (hb hby o214_261) rfl ?_
      show oW p e below T166 (oF_inv m 263 (oR sx) (oR el) (oi 0) (oi 0) (oR m0) (od FP.dconst1) .second (oi 1) (od FP.dconst1) .second (oi 0) [(.int 0), (.ref m1)]) _
      refine XT.dup2 X166.here hx rfl (hb hby o214_263) rfl rfl rfl ?_
      refine own_ldD X166 hx hZ e166 f162_14 ⟨by decide, by decide⟩ (v := (.double FP.dconst1)) rfl (g := (oF_inv m 264 (oR sx) (oR el) (oi 0) (oi 0) (oR m0) (od FP.dconst1) .second (oi 1) (od FP.dconst1) .second (oi 0) [(.int 0), (.ref m1), (.int 0), (.ref m1)])) rfl rfl (hb hby o214_264) _ ?_
      refine XS.dload X166.here hx rfl (hb hby o214_265) rfl ?_
      refine XS.aloadN X166.here hx rfl (hb hby o214_267) rfl rfl ?_
      refine XS.iloadN X166.here hx rfl (hb hby o214_268) rfl ?_
      refine own_ldA X166 hx hZ e166 f162_6 ⟨by decide, by decide⟩ (v := (.ref m0)) rfl (g := (oF_inv m 269 (oR sx) (oR el) (oi 0) (oi 0) (oR m0) (od FP.dconst1) .second (oi 1) (od FP.dconst1) .second (oi 0) [(.int 0), (.ref el), (.double FP.dconst1), (.double FP.dconst1), (.int 0), (.ref m1)])) rfl rfl (hb hby o214_269) _ ?_
      show oW p e below T166 (oF_inv m 270 (oR sx) (oR el) (oi 0) (oi 0) (oR m0) (od FP.dconst1) .second (oi 1) (od FP.dconst1) .second (oi 0) [(.ref m0), (.double FP.dconst1), (.double FP.dconst1), (.int 0), (.ref m1)]) _
      refine XS.iload X166.here hx rfl (hb hby o214_270) rfl ?_
      refine own_ldD X166 hx hZ e166 V162 ⟨by decide, by decide⟩ (v := (.double 4607182418800017408)) rfl (g := (oF_inv m 272 (oR sx) (oR el) (oi 0) (oi 0) (oR m0) (od FP.dconst1) .second (oi 1) (od FP.dconst1) .second (oi 0) [(.int 0), (.ref m0), (.double FP.dconst1), (.double FP.dconst1), (.int 0), (.ref m1)])) rfl rfl (hb hby o214_272) _ ?_
      refine XS.dmulS X166.here hx rfl (hb hby o214_273) rfl (own_f21n hPx hPy) (own_f21 hPx hPy) ?_
      refine XS.dsubS X166.here hx rfl (hb hby o214_274) rfl (own_f22n hPx hPy) (own_f22 hPx hPy) ?_
      exact k) ?_
    obtain ⟨T167, h167, X167, e167, W167, U167, st167⟩ := own_stD X166 hx hZ e166 f162_14 (j := (0 : Int32)) ⟨by decide, by decide⟩ 0 rfl (Nat.le_of_ble_eq_true rfl) (g := (oF_inv m 275 (oR sx) (oR el) (oi 0) (oi 0) (oR m0) (od FP.dconst1) .second (oi 1) (od FP.dconst1) .second (oi 0) [(.double 0), (.int 0), (.ref m1)])) rfl rfl (hb hby o214_275)
    refine own_go st167 ?_
    have V167 : Arv Z h167 m1 km1 .double (4 : Int32) [(.double 0), (.double uy), (.double FP.dconst0), (.double FP.dconst1)] (.double 0) := U167
    have f167_6 : Arv Z h167 el kel (.array .double) (2 : Int32) [(.ref m0), (.ref m1)] .null := f162_6.other W167 (od_el_m1)
    have f167_10 : Arv Z h167 i0 ki0 .double (2 : Int32) [(.double 0), (.double 0)] (.double 0) := f162_10.other W167 (od_i0_m1)
    have f167_11 : Arv Z h167 i1 ki1 .double (2 : Int32) [(.double 0), (.double 0)] (.double 0) := f162_11.other W167 (od_i1_m1)
    have f167_13 : Arv Z h167 vl kvl .double (2 : Int32) [(.double 0), (.double 0)] (.double 0) := f162_13.other W167 (od_vl_m1)
    have f167_15 : Arv Z h167 m0 km0 .double (4 : Int32) [(.double 4607182418800017408), (.double 0), (.double 4607182418800017408), (.double 0)] (.double 0) := V162.other W167 (od_m0_m1)
    have N167 := Fr.snoc X167 N162 g_m1
    have Z167 : n0 ≤ h167.size := Nat.le_trans Z162 (Keep.of_wr W167).1
    have K167 : Keep h0 h167 [el, m0, m1, i0, i1, vl] := K162.wr W167 (Or.inl (List.mem_of_getElem? (i := 2) rfl))
    refine own_go (A := oW p e below T167 (oF_inv m 250 (oR sx) (oR el) (oi 0) (oi 0) (oR m0) (od FP.dconst1) .second (oi 1) (od FP.dconst1) .second (oi 1) [(.ref sx), (.int 2), (.int 1)])) (fun t k => by
      refine XS.iinc X167.here hx rfl (hb hby o214_276) rfl (l' := #[(oR sx), (oR el), (oi 0), (oi 0), (oR m0), (od FP.dconst1), .second, (oi 1), (od FP.dconst1), .second, (oi 1)]) rfl ?_
      refine XS.goto X167.here hx rfl (pc0 := 279) (pc' := 246) rfl (hb hby o214_279) (by decide) (by decide) ?_
      show oW p e below T167 (oF_inv m 246 (oR sx) (oR el) (oi 0) (oi 0) (oR m0) (od FP.dconst1) .second (oi 1) (od FP.dconst1) .second (oi 1) []) _
      refine XS.iload X167.here hx rfl (hb hby o214_246) rfl ?_
      refine XS.iconst X167.here hx rfl (hb hby o214_248) ?_
      refine XS.aloadN X167.here hx rfl (hb hby o214_249) rfl rfl ?_
      exact k) ?_
    obtain ⟨T168, X168, e168, st168⟩ := getF X167 hx hZ hown (host := "") (Or.inl ow25) Via.refl e167 (Gp1.keep K167 nn_sx) (g := (oF_inv m 250 (oR sx) (oR el) (oi 0) (oi 0) (oR m0) (od FP.dconst1) .second (oi 1) (od FP.dconst1) .second (oi 1) [(.ref sx), (.int 2), (.int 1)])) rfl rfl (hb hby o214_250)
    refine own_go st168 ?_
    refine own_go (A := oW p e below T168 (oF_inv m 275 (oR sx) (oR el) (oi 0) (oi 0) (oR m0) (od FP.dconst1) .second (oi 1) (od FP.dconst1) .second (oi 1) [(.double uy), (.int 1), (.ref m1)])) (fun t k => by
      refine XS.imul X168.here hx rfl (hb hby o214_253) rfl ?_
      refine XS.icmpNo X168.here hx rfl (hb hby o214_254) rfl (tlt (by decide : (1 : Int32) < (4 : Int32))).2.1 ?_
      refine XS.aloadN X168.here hx rfl (hb hby o214_257) rfl rfl ?_
      show oW p e below T168 (oF_inv m 258 (oR sx) (oR el) (oi 0) (oi 0) (oR m0) (od FP.dconst1) .second (oi 1) (od FP.dconst1) .second (oi 1) [(.ref el)]) _
      refine XS.iload X168.here hx rfl (hb hby o214_258) rfl ?_
      refine own_ldA X168 hx hZ e168 f167_6 ⟨by decide, by decide⟩ (v := (.ref m1)) rfl (g := (oF_inv m 260 (oR sx) (oR el) (oi 0) (oi 0) (oR m0) (od FP.dconst1) .second (oi 1) (od FP.dconst1) .second (oi 1) [(.int 1), (.ref el)])) rfl rfl (hb hby o214_260) _ ?_
      refine XS.iload X168.here hx rfl (hb hby o214_261) rfl ?_
      refine XT.dup2 X168.here hx rfl (hb hby o214_263) rfl rfl rfl ?_
      refine own_ldD X168 hx hZ e168 V167 ⟨by decide, by decide⟩ (v := (.double uy)) rfl (g := (oF_inv m 264 (oR sx) (oR el) (oi 0) (oi 0) (oR m0) (od FP.dconst1) .second (oi 1) (od FP.dconst1) .second (oi 1) [(.int 1), (.ref m1), (.int 1), (.ref m1)])) rfl rfl (hb hby o214_264) _ ?_
      refine XS.dload X168.here hx rfl (hb hby o214_265) rfl ?_
      show oW p e below T168 (oF_inv m 267 (oR sx) (oR el) (oi 0) (oi 0) (oR m0) (od FP.dconst1) .second (oi 1) (od FP.dconst1) .second (oi 1) [(.double FP.dconst1), (.double uy), (.int 1), (.ref m1)]) _
      refine XS.aloadN X168.here hx rfl (hb hby o214_267) rfl rfl ?_
      refine XS.iloadN X168.here hx rfl (hb hby o214_268) rfl ?_
      refine own_ldA X168 hx hZ e168 f167_6 ⟨by decide, by decide⟩ (v := (.ref m0)) rfl (g := (oF_inv m 269 (oR sx) (oR el) (oi 0) (oi 0) (oR m0) (od FP.dconst1) .second (oi 1) (od FP.dconst1) .second (oi 1) [(.int 0), (.ref el), (.double FP.dconst1), (.double uy), (.int 1), (.ref m1)])) rfl rfl (hb hby o214_269) _ ?_
      refine XS.iload X168.here hx rfl (hb hby o214_270) rfl ?_
      refine own_ldD X168 hx hZ e168 f167_15 ⟨by decide, by decide⟩ (v := (.double 0)) rfl (g := (oF_inv m 272 (oR sx) (oR el) (oi 0) (oi 0) (oR m0) (od FP.dconst1) .second (oi 1) (od FP.dconst1) .second (oi 1) [(.int 1), (.ref m0), (.double FP.dconst1), (.double uy), (.int 1), (.ref m1)])) rfl rfl (hb hby o214_272) _ ?_
      refine XS.dmulS X168.here hx rfl (hb hby o214_273) rfl (own_f23n hPx hPy) (own_f23 hPx hPy) ?_
      show oW p e below T168 (oF_inv m 274 (oR sx) (oR el) (oi 0) (oi 0) (oR m0) (od FP.dconst1) .second (oi 1) (od FP.dconst1) .second (oi 1) [(.double 0), (.double uy), (.int 1), (.ref m1)]) _
      refine XS.dsubS X168.here hx rfl (hb hby o214_274) rfl (own_f24n hPx hPy) (own_f24 hPx hPy) ?_
      exact k) ?_
    obtain ⟨T169, h169, X169, e169, W169, U169, st169⟩ := own_stD X168 hx hZ e168 V167 (j := (1 : Int32)) ⟨by decide, by decide⟩ 1 rfl (Nat.le_of_ble_eq_true rfl) (g := (oF_inv m 275 (oR sx) (oR el) (oi 0) (oi 0) (oR m0) (od FP.dconst1) .second (oi 1) (od FP.dconst1) .second (oi 1) [(.double uy), (.int 1), (.ref m1)])) rfl rfl (hb hby o214_275)
    refine own_go st169 ?_
    have V169 : Arv Z h169 m1 km1 .double (4 : Int32) [(.double 0), (.double uy), (.double FP.dconst0), (.double FP.dconst1)] (.double 0) := U169
    have f169_6 : Arv Z h169 el kel (.array .double) (2 : Int32) [(.ref m0), (.ref m1)] .null := f167_6.other W169 (od_el_m1)
    have f169_10 : Arv Z h169 i0 ki0 .double (2 : Int32) [(.double 0), (.double 0)] (.double 0) := f167_10.other W169 (od_i0_m1)
    have f169_11 : Arv Z h169 i1 ki1 .double (2 : Int32) [(.double 0), (.double 0)] (.double 0) := f167_11.other W169 (od_i1_m1)
    have f169_13 : Arv Z h169 vl kvl .double (2 : Int32) [(.double 0), (.double 0)] (.double 0) := f167_13.other W169 (od_vl_m1)
    have f169_14 : Arv Z h169 m0 km0 .double (4 : Int32) [(.double 4607182418800017408), (.double 0), (.double 4607182418800017408), (.double 0)] (.double 0) := f167_15.other W169 (od_m0_m1)
    have N169 := Fr.snoc X169 N167 g_m1
    have Z169 : n0 ≤ h169.size := Nat.le_trans Z167 (Keep.of_wr W169).1
    have K169 : Keep h0 h169 [el, m0, m1, i0, i1, vl] := K167.wr W169 (Or.inl (List.mem_of_getElem? (i := 2) rfl))
    refine own_go (A := oW p e below T169 (oF_inv m 250 (oR sx) (oR el) (oi 0) (oi 0) (oR m0) (od FP.dconst1) .second (oi 1) (od FP.dconst1) .second (oi 2) [(.ref sx), (.int 2), (.int 2)])) (fun t k => by
      refine XS.iinc X169.here hx rfl (hb hby o214_276) rfl (l' := #[(oR sx), (oR el), (oi 0), (oi 0), (oR m0), (od FP.dconst1), .second, (oi 1), (od FP.dconst1), .second, (oi 2)]) rfl ?_
      refine XS.goto X169.here hx rfl (pc0 := 279) (pc' := 246) rfl (hb hby o214_279) (by decide) (by decide) ?_
      refine XS.iload X169.here hx rfl (hb hby o214_246) rfl ?_
      refine XS.iconst X169.here hx rfl (hb hby o214_248) ?_
      refine XS.aloadN X169.here hx rfl (hb hby o214_249) rfl rfl ?_
      exact k) ?_
    obtain ⟨T170, X170, e170, st170⟩ := getF X169 hx hZ hown (host := "") (Or.inl ow25) Via.refl e169 (Gp1.keep K169 nn_sx) (g := (oF_inv m 250 (oR sx) (oR el) (oi 0) (oi 0) (oR m0) (od FP.dconst1) .second (oi 1) (od FP.dconst1) .second (oi 2) [(.ref sx), (.int 2), (.int 2)])) rfl rfl (hb hby o214_250)
    refine own_go st170 ?_
    refine own_go (A := oW p e below T170 (oF_inv m 275 (oR sx) (oR el) (oi 0) (oi 0) (oR m0) (od FP.dconst1) .second (oi 1) (od FP.dconst1) .second (oi 2) [(.double 13830554455654793216), (.int 2), (.ref m1)])) (fun t k => by
      refine XS.imul X170.here hx rfl (hb hby o214_253) rfl ?_
      refine XS.icmpNo X170.here hx rfl (hb hby o214_254) rfl (tlt (by decide : (2 : Int32) < (4 : Int32))).2.1 ?_
      refine XS.aloadN X170.here hx rfl (hb hby o214_257) rfl rfl ?_
      refine XS.iload X170.here hx rfl (hb hby o214_258) rfl ?_
      refine own_ldA X170 hx hZ e170 f169_6 ⟨by decide, by decide⟩ (v := (.ref m1)) rfl (g := (oF_inv m 260 (oR sx) (oR el) (oi 0) (oi 0) (oR m0) (od FP.dconst1) .second (oi 1) (od FP.dconst1) .second (oi 2) [(.int 1), (.ref el)])) rfl rfl (hb hby o214_260) _ ?_
      refine XS.iload X170.here hx rfl (hb hby o214_261) rfl ?_
      show oW p e below T170 (oF_inv m 263 (oR sx) (oR el) (oi 0) (oi 0) (oR m0) (od FP.dconst1) .second (oi 1) (od FP.dconst1) .second (oi 2) [(.int 2), (.ref m1)]) _
      refine XT.dup2 X170.here hx rfl (hb hby o214_263) rfl rfl rfl ?_
      refine own_ldD X170 hx hZ e170 V169 ⟨by decide, by decide⟩ (v := (.double FP.dconst0)) rfl (g := (oF_inv m 264 (oR sx) (oR el) (oi 0) (oi 0) (oR m0) (od FP.dconst1) .second (oi 1) (od FP.dconst1) .second (oi 2) [(.int 2), (.ref m1), (.int 2), (.ref m1)])) rfl rfl (hb hby o214_264) _ ?_
      refine XS.dload X170.here hx rfl (hb hby o214_265) rfl ?_
      refine XS.aloadN X170.here hx rfl (hb hby o214_267) rfl rfl ?_
      refine XS.iloadN X170.here hx rfl (hb hby o214_268) rfl ?_
      refine own_ldA X170 hx hZ e170 f169_6 ⟨by decide, by decide⟩ (v := (.ref m0)) rfl (g := (oF_inv m 269 (oR sx) (oR el) (oi 0) (oi 0) (oR m0) (od FP.dconst1) .second (oi 1) (od FP.dconst1) .second (oi 2) [(.int 0), (.ref el), (.double FP.dconst1), (.double FP.dconst0), (.int 2), (.ref m1)])) rfl rfl (hb hby o214_269) _ ?_
      show oW p e below T170 (oF_inv m 270 (oR sx) (oR el) (oi 0) (oi 0) (oR m0) (od FP.dconst1) .second (oi 1) (od FP.dconst1) .second (oi 2) [(.ref m0), (.double FP.dconst1), (.double FP.dconst0), (.int 2), (.ref m1)]) _
      refine XS.iload X170.here hx rfl (hb hby o214_270) rfl ?_
      refine own_ldD X170 hx hZ e170 f169_14 ⟨by decide, by decide⟩ (v := (.double 4607182418800017408)) rfl (g := (oF_inv m 272 (oR sx) (oR el) (oi 0) (oi 0) (oR m0) (od FP.dconst1) .second (oi 1) (od FP.dconst1) .second (oi 2) [(.int 2), (.ref m0), (.double FP.dconst1), (.double FP.dconst0), (.int 2), (.ref m1)])) rfl rfl (hb hby o214_272) _ ?_
      refine XS.dmulS X170.here hx rfl (hb hby o214_273) rfl (own_f21n hPx hPy) (own_f21 hPx hPy) ?_
      refine XS.dsubS X170.here hx rfl (hb hby o214_274) rfl (own_f25n hPx hPy) (own_f25 hPx hPy) ?_
      exact k) ?_
    obtain ⟨T171, h171, X171, e171, W171, U171, st171⟩ := own_stD X170 hx hZ e170 V169 (j := (2 : Int32)) ⟨by decide, by decide⟩ 2 rfl (Nat.le_of_ble_eq_true rfl) (g := (oF_inv m 275 (oR sx) (oR el) (oi 0) (oi 0) (oR m0) (od FP.dconst1) .second (oi 1) (od FP.dconst1) .second (oi 2) [(.double 13830554455654793216), (.int 2), (.ref m1)])) rfl rfl (hb hby o214_275)
    refine own_go st171 ?_
    have V171 : Arv Z h171 m1 km1 .double (4 : Int32) [(.double 0), (.double uy), (.double 13830554455654793216), (.double FP.dconst1)] (.double 0) := U171
    have f171_6 : Arv Z h171 el kel (.array .double) (2 : Int32) [(.ref m0), (.ref m1)] .null := f169_6.other W171 (od_el_m1)
    have f171_10 : Arv Z h171 i0 ki0 .double (2 : Int32) [(.double 0), (.double 0)] (.double 0) := f169_10.other W171 (od_i0_m1)
    have f171_11 : Arv Z h171 i1 ki1 .double (2 : Int32) [(.double 0), (.double 0)] (.double 0) := f169_11.other W171 (od_i1_m1)
    have f171_13 : Arv Z h171 vl kvl .double (2 : Int32) [(.double 0), (.double 0)] (.double 0) := f169_13.other W171 (od_vl_m1)
    have f171_14 : Arv Z h171 m0 km0 .double (4 : Int32) [(.double 4607182418800017408), (.double 0), (.double 4607182418800017408), (.double 0)] (.double 0) := f169_14.other W171 (od_m0_m1)
    have N171 := Fr.snoc X171 N169 g_m1
    have Z171 : n0 ≤ h171.size := Nat.le_trans Z169 (Keep.of_wr W171).1
    have K171 : Keep h0 h171 [el, m0, m1, i0, i1, vl] := K169.wr W171 (Or.inl (List.mem_of_getElem? (i := 2) rfl))
    refine own_go (A := oW p e below T171 (oF_inv m 250 (oR sx) (oR el) (oi 0) (oi 0) (oR m0) (od FP.dconst1) .second (oi 1) (od FP.dconst1) .second (oi 3) [(.ref sx), (.int 2), (.int 3)])) (fun t k => by
      refine XS.iinc X171.here hx rfl (hb hby o214_276) rfl (l' := #[(oR sx), (oR el), (oi 0), (oi 0), (oR m0), (od FP.dconst1), .second, (oi 1), (od FP.dconst1), .second, (oi 3)]) rfl ?_
      refine XS.goto X171.here hx rfl (pc0 := 279) (pc' := 246) rfl (hb hby o214_279) (by decide) (by decide) ?_
      show oW p e below T171 (oF_inv m 246 (oR sx) (oR el) (oi 0) (oi 0) (oR m0) (od FP.dconst1) .second (oi 1) (od FP.dconst1) .second (oi 3) []) _
      refine XS.iload X171.here hx rfl (hb hby o214_246) rfl ?_
      refine XS.iconst X171.here hx rfl (hb hby o214_248) ?_
      refine XS.aloadN X171.here hx rfl (hb hby o214_249) rfl rfl ?_
      exact k) ?_
    obtain ⟨T172, X172, e172, st172⟩ := getF X171 hx hZ hown (host := "") (Or.inl ow25) Via.refl e171 (Gp1.keep K171 nn_sx) (g := (oF_inv m 250 (oR sx) (oR el) (oi 0) (oi 0) (oR m0) (od FP.dconst1) .second (oi 1) (od FP.dconst1) .second (oi 3) [(.ref sx), (.int 2), (.int 3)])) rfl rfl (hb hby o214_250)
    refine own_go st172 ?_
    refine own_go (A := oW p e below T172 (oF_inv m 275 (oR sx) (oR el) (oi 0) (oi 0) (oR m0) (od FP.dconst1) .second (oi 1) (od FP.dconst1) .second (oi 3) [(.double 4607182418800017408), (.int 3), (.ref m1)])) (fun t k => by
      refine XS.imul X172.here hx rfl (hb hby o214_253) rfl ?_
      refine XS.icmpNo X172.here hx rfl (hb hby o214_254) rfl (tlt (by decide : (3 : Int32) < (4 : Int32))).2.1 ?_
      refine XS.aloadN X172.here hx rfl (hb hby o214_257) rfl rfl ?_
      show oW p e below T172 (oF_inv m 258 (oR sx) (oR el) (oi 0) (oi 0) (oR m0) (od FP.dconst1) .second (oi 1) (od FP.dconst1) .second (oi 3) [(.ref el)]) _
      refine XS.iload X172.here hx rfl (hb hby o214_258) rfl ?_
      refine own_ldA X172 hx hZ e172 f171_6 ⟨by decide, by decide⟩ (v := (.ref m1)) rfl (g := (oF_inv m 260 (oR sx) (oR el) (oi 0) (oi 0) (oR m0) (od FP.dconst1) .second (oi 1) (od FP.dconst1) .second (oi 3) [(.int 1), (.ref el)])) rfl rfl (hb hby o214_260) _ ?_
      refine XS.iload X172.here hx rfl (hb hby o214_261) rfl ?_
      refine XT.dup2 X172.here hx rfl (hb hby o214_263) rfl rfl rfl ?_
      refine own_ldD X172 hx hZ e172 V171 ⟨by decide, by decide⟩ (v := (.double FP.dconst1)) rfl (g := (oF_inv m 264 (oR sx) (oR el) (oi 0) (oi 0) (oR m0) (od FP.dconst1) .second (oi 1) (od FP.dconst1) .second (oi 3) [(.int 3), (.ref m1), (.int 3), (.ref m1)])) rfl rfl (hb hby o214_264) _ ?_
      refine XS.dload X172.here hx rfl (hb hby o214_265) rfl ?_
      show oW p e below T172 (oF_inv m 267 (oR sx) (oR el) (oi 0) (oi 0) (oR m0) (od FP.dconst1) .second (oi 1) (od FP.dconst1) .second (oi 3) [(.double FP.dconst1), (.double FP.dconst1), (.int 3), (.ref m1)]) _
      refine XS.aloadN X172.here hx rfl (hb hby o214_267) rfl rfl ?_
      refine XS.iloadN X172.here hx rfl (hb hby o214_268) rfl ?_
      refine own_ldA X172 hx hZ e172 f171_6 ⟨by decide, by decide⟩ (v := (.ref m0)) rfl (g := (oF_inv m 269 (oR sx) (oR el) (oi 0) (oi 0) (oR m0) (od FP.dconst1) .second (oi 1) (od FP.dconst1) .second (oi 3) [(.int 0), (.ref el), (.double FP.dconst1), (.double FP.dconst1), (.int 3), (.ref m1)])) rfl rfl (hb hby o214_269) _ ?_
      refine XS.iload X172.here hx rfl (hb hby o214_270) rfl ?_
      refine own_ldD X172 hx hZ e172 f171_14 ⟨by decide, by decide⟩ (v := (.double 0)) rfl (g := (oF_inv m 272 (oR sx) (oR el) (oi 0) (oi 0) (oR m0) (od FP.dconst1) .second (oi 1) (od FP.dconst1) .second (oi 3) [(.int 3), (.ref m0), (.double FP.dconst1), (.double FP.dconst1), (.int 3), (.ref m1)])) rfl rfl (hb hby o214_272) _ ?_
      refine XS.dmulS X172.here hx rfl (hb hby o214_273) rfl (own_f23n hPx hPy) (own_f23 hPx hPy) ?_
      show oW p e below T172 (oF_inv m 274 (oR sx) (oR el) (oi 0) (oi 0) (oR m0) (od FP.dconst1) .second (oi 1) (od FP.dconst1) .second (oi 3) [(.double 0), (.double FP.dconst1), (.int 3), (.ref m1)]) _
      refine XS.dsubS X172.here hx rfl (hb hby o214_274) rfl (own_f26n hPx hPy) (own_f26 hPx hPy) ?_
      exact k) ?_
    obtain ⟨T173, h173, X173, e173, W173, U173, st173⟩ := own_stD X172 hx hZ e172 V171 (j := (3 : Int32)) ⟨by decide, by decide⟩ 3 rfl (Nat.le_of_ble_eq_true rfl) (g := (oF_inv m 275 (oR sx) (oR el) (oi 0) (oi 0) (oR m0) (od FP.dconst1) .second (oi 1) (od FP.dconst1) .second (oi 3) [(.double 4607182418800017408), (.int 3), (.ref m1)])) rfl rfl (hb hby o214_275)
    refine own_go st173 ?_
    have V173 : Arv Z h173 m1 km1 .double (4 : Int32) [(.double 0), (.double uy), (.double 13830554455654793216), (.double 4607182418800017408)] (.double 0) := U173
    have f173_6 : Arv Z h173 el kel (.array .double) (2 : Int32) [(.ref m0), (.ref m1)] .null := f171_6.other W173 (od_el_m1)
    have f173_10 : Arv Z h173 i0 ki0 .double (2 : Int32) [(.double 0), (.double 0)] (.double 0) := f171_10.other W173 (od_i0_m1)
    have f173_11 : Arv Z h173 i1 ki1 .double (2 : Int32) [(.double 0), (.double 0)] (.double 0) := f171_11.other W173 (od_i1_m1)
    have f173_13 : Arv Z h173 vl kvl .double (2 : Int32) [(.double 0), (.double 0)] (.double 0) := f171_13.other W173 (od_vl_m1)
    have f173_14 : Arv Z h173 m0 km0 .double (4 : Int32) [(.double 4607182418800017408), (.double 0), (.double 4607182418800017408), (.double 0)] (.double 0) := f171_14.other W173 (od_m0_m1)
    have N173 := Fr.snoc X173 N171 g_m1
    have Z173 : n0 ≤ h173.size := Nat.le_trans Z171 (Keep.of_wr W173).1
    have K173 : Keep h0 h173 [el, m0, m1, i0, i1, vl] := K171.wr W173 (Or.inl (List.mem_of_getElem? (i := 2) rfl))
    refine own_go (A := oW p e below T173 (oF_inv m 250 (oR sx) (oR el) (oi 0) (oi 0) (oR m0) (od FP.dconst1) .second (oi 1) (od FP.dconst1) .second (oi 4) [(.ref sx), (.int 2), (.int 4)])) (fun t k => by
      refine XS.iinc X173.here hx rfl (hb hby o214_276) rfl (l' := #[(oR sx), (oR el), (oi 0), (oi 0), (oR m0), (od FP.dconst1), .second, (oi 1), (od FP.dconst1), .second, (oi 4)]) rfl ?_
      refine XS.goto X173.here hx rfl (pc0 := 279) (pc' := 246) rfl (hb hby o214_279) (by decide) (by decide) ?_
      refine XS.iload X173.here hx rfl (hb hby o214_246) rfl ?_
      refine XS.iconst X173.here hx rfl (hb hby o214_248) ?_
      refine XS.aloadN X173.here hx rfl (hb hby o214_249) rfl rfl ?_
      exact k) ?_
    obtain ⟨T174, X174, e174, st174⟩ := getF X173 hx hZ hown (host := "") (Or.inl ow25) Via.refl e173 (Gp1.keep K173 nn_sx) (g := (oF_inv m 250 (oR sx) (oR el) (oi 0) (oi 0) (oR m0) (od FP.dconst1) .second (oi 1) (od FP.dconst1) .second (oi 4) [(.ref sx), (.int 2), (.int 4)])) rfl rfl (hb hby o214_250)
    refine own_go st174 ?_
    refine own_go (A := oW p e below T174 (oF_inv m 216 (oR sx) (oR el) (oi 0) (oi 0) (oR m0) (od FP.dconst1) .second (oi 2) (od FP.dconst1) .second (oi 4) [(.ref sx), (.int 2)])) (fun t k => by
      refine XS.imul X174.here hx rfl (hb hby o214_253) rfl ?_
      refine XS.icmpYes X174.here hx rfl (pc0 := 254) (pc' := 282) rfl (hb hby o214_254) rfl (flt (by decide : ¬ ((4 : Int32) < (4 : Int32)))).2.1 (by decide) (by decide) ?_
      refine XS.iinc X174.here hx rfl (hb hby o214_282) rfl (l' := #[(oR sx), (oR el), (oi 0), (oi 0), (oR m0), (od FP.dconst1), .second, (oi 2), (od FP.dconst1), .second, (oi 4)]) rfl ?_
      refine XS.goto X174.here hx rfl (pc0 := 285) (pc' := 213) rfl (hb hby o214_285) (by decide) (by decide) ?_
      refine XS.iload X174.here hx rfl (hb hby o214_213) rfl ?_
      refine XS.aloadN X174.here hx rfl (hb hby o214_215) rfl rfl ?_
      exact k) ?_
    obtain ⟨T175, X175, e175, st175⟩ := getF X174 hx hZ hown (host := "") (Or.inl ow25) Via.refl e174 (Gp1.keep K173 nn_sx) (g := (oF_inv m 216 (oR sx) (oR el) (oi 0) (oi 0) (oR m0) (od FP.dconst1) .second (oi 2) (od FP.dconst1) .second (oi 4) [(.ref sx), (.int 2)])) rfl rfl (hb hby o214_216)
    refine own_go st175 ?_
    refine own_go (A := oW p e below T175 (oF_inv m 87 (oR sx) (oR el) (oi 1) (oi 0) (oR m0) (od FP.dconst1) .second (oi 2) (od FP.dconst1) .second (oi 4) [(.ref sx), (.int 1)])) (fun t k => by
      refine XS.icmpYes X175.here hx rfl (pc0 := 219) (pc' := 288) rfl (hb hby o214_219) rfl (flt (by decide : ¬ ((2 : Int32) < (2 : Int32)))).2.1 (by decide) (by decide) ?_
      refine XS.iinc X175.here hx rfl (hb hby o214_288) rfl (l' := #[(oR sx), (oR el), (oi 1), (oi 0), (oR m0), (od FP.dconst1), .second, (oi 2), (od FP.dconst1), .second, (oi 4)]) rfl ?_
      refine XS.goto X175.here hx rfl (pc0 := 291) (pc' := 85) rfl (hb hby o214_291) (by decide) (by decide) ?_
      refine XS.iloadN X175.here hx rfl (hb hby o214_85) rfl ?_
      refine XS.aloadN X175.here hx rfl (hb hby o214_86) rfl rfl ?_
      exact k) ?_
    obtain ⟨T176, X176, e176, st176⟩ := getF X175 hx hZ hown (host := "") (Or.inl ow25) Via.refl e175 (Gp1.keep K173 nn_sx) (g := (oF_inv m 87 (oR sx) (oR el) (oi 1) (oi 0) (oR m0) (od FP.dconst1) .second (oi 2) (od FP.dconst1) .second (oi 4) [(.ref sx), (.int 1)])) rfl rfl (hb hby o214_87)
    refine own_go st176 ?_
    refine own_go (A := oW p e below T176 (oF_inv m 103 (oR sx) (oR el) (oi 1) (oi 1) (oi 2) (od FP.dconst1) .second (oi 2) (od FP.dconst1) .second (oi 4) [(.ref sx), (.int 2)])) (fun t k => by
      refine XS.icmpNo X176.here hx rfl (hb hby o214_90) rfl (tlt (by decide : (1 : Int32) < (2 : Int32))).2.1 ?_
      show oW p e below T176 (oF_inv m 93 (oR sx) (oR el) (oi 1) (oi 0) (oR m0) (od FP.dconst1) .second (oi 2) (od FP.dconst1) .second (oi 4) []) _
      refine XS.iloadN X176.here hx rfl (hb hby o214_93) rfl ?_
      refine XS.istoreN X176.here hx rfl (hb hby o214_94) rfl (l' := #[(oR sx), (oR el), (oi 1), (oi 1), (oR m0), (od FP.dconst1), .second, (oi 2), (od FP.dconst1), .second, (oi 4)]) rfl ?_
      refine XS.iloadN X176.here hx rfl (hb hby o214_95) rfl ?_
      refine XS.iconst X176.here hx rfl (hb hby o214_96) ?_
      refine XS.iadd X176.here hx rfl (hb hby o214_97) rfl ?_
      refine XS.istore X176.here hx rfl (hb hby o214_98) rfl (l' := #[(oR sx), (oR el), (oi 1), (oi 1), (oi 2), (od FP.dconst1), .second, (oi 2), (od FP.dconst1), .second, (oi 4)]) rfl ?_
      show oW p e below T176 (oF_inv m 100 (oR sx) (oR el) (oi 1) (oi 1) (oi 2) (od FP.dconst1) .second (oi 2) (od FP.dconst1) .second (oi 4) []) _
      refine XS.iload X176.here hx rfl (hb hby o214_100) rfl ?_
      refine XS.aloadN X176.here hx rfl (hb hby o214_102) rfl rfl ?_
      exact k) ?_
    obtain ⟨T177, X177, e177, st177⟩ := getF X176 hx hZ hown (host := "") (Or.inl ow25) Via.refl e176 (Gp1.keep K173 nn_sx) (g := (oF_inv m 103 (oR sx) (oR el) (oi 1) (oi 1) (oi 2) (od FP.dconst1) .second (oi 2) (od FP.dconst1) .second (oi 4) [(.ref sx), (.int 2)])) rfl rfl (hb hby o214_103)
    refine own_go st177 ?_
    refine own_go (A := oW p e below T177 (oF_inv m 144 (oR sx) (oR el) (oi 1) (oi 1) (oi 2) (od FP.dconst1) .second (oi 2) (od FP.dconst1) .second (oi 4) [(.double uy)])) (fun t k => by
      refine XS.icmpYes X177.here hx rfl (pc0 := 106) (pc' := 139) rfl (hb hby o214_106) rfl (flt (by decide : ¬ ((2 : Int32) < (2 : Int32)))).2.1 (by decide) (by decide) ?_
      refine XS.aloadN X177.here hx rfl (hb hby o214_139) rfl rfl ?_
      refine XS.iloadN X177.here hx rfl (hb hby o214_140) rfl ?_
      refine own_ldA X177 hx hZ e177 f173_6 ⟨by decide, by decide⟩ (v := (.ref m1)) rfl (g := (oF_inv m 141 (oR sx) (oR el) (oi 1) (oi 1) (oi 2) (od FP.dconst1) .second (oi 2) (od FP.dconst1) .second (oi 4) [(.int 1), (.ref el)])) rfl rfl (hb hby o214_141) _ ?_
      show oW p e below T177 (oF_inv m 142 (oR sx) (oR el) (oi 1) (oi 1) (oi 2) (od FP.dconst1) .second (oi 2) (od FP.dconst1) .second (oi 4) [(.ref m1)]) _
      refine XS.iloadN X177.here hx rfl (hb hby o214_142) rfl ?_
      refine own_ldD X177 hx hZ e177 V173 ⟨by decide, by decide⟩ (v := (.double uy)) rfl (g := (oF_inv m 143 (oR sx) (oR el) (oi 1) (oi 1) (oi 2) (od FP.dconst1) .second (oi 2) (od FP.dconst1) .second (oi 4) [(.int 1), (.ref m1)])) rfl rfl (hb hby o214_143) _ ?_
      exact k) ?_
    obtain ⟨_, vm178, B178, -, X178q, ⟨hr178, hB178⟩, st178⟩ := Jvm.LawKit.callS X177 hx (y := (⟨"java/lang/Math", "abs", "(D)D"⟩ : MethodName)) hown (mvT hZ ow76) (mvT hZ ow77) (mvT hZ ow78) (mvT hZ ow79) (by decide) (Jvm.Free.Fl.Abs.absD_pays (W := 0) uy (mvT hZ ow79) (by decide) (by decide)) (g := (oF_inv m 144 (oR sx) (oR el) (oi 1) (oi 1) (oi 2) (od FP.dconst1) .second (oi 2) (od FP.dconst1) .second (oi 4) [(.double uy)])) rfl (by rw [hml]; rfl) (argsL := [(.double uy)]) (rest := []) (lenOf own_pd_28D29D rfl) rfl (by show 2 * 0 + _ ≤ _; exact Nat.le_of_eq rfl) (hb hby o214_144) (fun _ _ => ⟨(by decide : 0 ≤ _), (by decide : 0 ≤ _), rfl, (own_s2 hPx hPy)⟩)
    subst hB178; subst hr178
    obtain ⟨T178, eT178⟩ : ∃ z, z = T177.setVm vm178 := ⟨_, rfl⟩
    dsimp only [Pt.U, Pt.locs, Pt.cells, Pt.slots] at X178q st178
    rw [← eT178] at X178q st178
    have X178 := X178q
    have e178 : T178.heap = h173 := by rw [eT178]; exact e177
    rw [own_f8 hPx hPy] at st178
    refine own_go st178 ?_
    refine own_go (A := oW p e below T178 (oF_inv m 166 (oR sx) (oR el) (oi 1) (oi 1) (oR m1) (od FP.dconst1) .second (oi 2) (od FP.dconst1) .second (oi 4) [(.ref m1), (.int 1), (.ref el)])) (fun t k => by
      refine X178.ldc2DoubleC hx hown (mvT hZ ow80) (g := (oF_inv m 147 (oR sx) (oR el) (oi 1) (oi 1) (oi 2) (od FP.dconst1) .second (oi 2) (od FP.dconst1) .second (oi 4) [(.double uy)])) rfl (hb hby o214_147) _ ?_
      refine XS.dcmpS X178.here hx rfl (hb hby o214_150) rfl (own_f9 hPx hPy) ?_
      refine XS.ifYes X178.here hx rfl (pc0 := 151) (pc' := 156) rfl (hb hby o214_151) rfl ((if0 _ _).trans (tlt (by decide : (0 : Int32) < (1 : Int32))).2.2.1) (by decide) (by decide) ?_
      refine XS.aloadN X178.here hx rfl (hb hby o214_156) rfl rfl ?_
      show oW p e below T178 (oF_inv m 157 (oR sx) (oR el) (oi 1) (oi 1) (oi 2) (od FP.dconst1) .second (oi 2) (od FP.dconst1) .second (oi 4) [(.ref el)]) _
      refine XS.iloadN X178.here hx rfl (hb hby o214_157) rfl ?_
      refine own_ldA X178 hx hZ e178 f173_6 ⟨by decide, by decide⟩ (v := (.ref m1)) rfl (g := (oF_inv m 158 (oR sx) (oR el) (oi 1) (oi 1) (oi 2) (od FP.dconst1) .second (oi 2) (od FP.dconst1) .second (oi 4) [(.int 1), (.ref el)])) rfl rfl (hb hby o214_158) _ ?_
      refine XS.astore X178.here hx rfl (hb hby o214_159) rfl rfl (l' := #[(oR sx), (oR el), (oi 1), (oi 1), (oR m1), (od FP.dconst1), .second, (oi 2), (od FP.dconst1), .second, (oi 4)]) rfl ?_
      refine XS.aloadN X178.here hx rfl (hb hby o214_161) rfl rfl ?_
      refine XS.iloadN X178.here hx rfl (hb hby o214_162) rfl ?_
      refine XS.aloadN X178.here hx rfl (hb hby o214_163) rfl rfl ?_
      show oW p e below T178 (oF_inv m 164 (oR sx) (oR el) (oi 1) (oi 1) (oR m1) (od FP.dconst1) .second (oi 2) (od FP.dconst1) .second (oi 4) [(.ref el), (.int 1), (.ref el)]) _
      refine XS.iloadN X178.here hx rfl (hb hby o214_164) rfl ?_
      refine own_ldA X178 hx hZ e178 f173_6 ⟨by decide, by decide⟩ (v := (.ref m1)) rfl (g := (oF_inv m 165 (oR sx) (oR el) (oi 1) (oi 1) (oR m1) (od FP.dconst1) .second (oi 2) (od FP.dconst1) .second (oi 4) [(.int 1), (.ref el), (.int 1), (.ref el)])) rfl rfl (hb hby o214_165) _ ?_
      exact k) ?_
    obtain ⟨cl179, Ar179, q179, S179, N179, H179, G179⟩ := id (f173_6)
    have hi179 : ¬ ((1 : Int32) < 0 ∨ cl179.slots.size ≤ ((1 : Int32)).toNatClampNeg) := inb_of S179 ⟨by decide, by decide⟩
    obtain ⟨T180, h180, X180, e180, W180, st180⟩ := stR X178 hx hZ e178 Ar179 (j := (1 : Int32)) hi179 rfl (Sto.ofVA Ar179 q179 Oel (Ins.self (Gp16.keep K173))) (g := (oF_inv m 166 (oR sx) (oR el) (oi 1) (oi 1) (oR m1) (od FP.dconst1) .second (oi 2) (od FP.dconst1) .second (oi 4) [(.ref m1), (.int 1), (.ref el)])) rfl rfl (hb hby o214_166)
    refine own_go st180 ?_
    have V180 : Arv Z h180 el kel (.array .double) (2 : Int32) [(.ref m0), (.ref m1)] .null := Arv.set Ar179 q179 S179 N179 H179 G179 rfl W180 1 rfl (Nat.le_of_ble_eq_true rfl)
    have f180_6 : Arv Z h180 el kel (.array .double) (2 : Int32) [(.ref m0), (.ref m1)] .null := V180
    have f180_10 : Arv Z h180 i0 ki0 .double (2 : Int32) [(.double 0), (.double 0)] (.double 0) := f173_10.other W180 (od_i0_el)
    have f180_11 : Arv Z h180 i1 ki1 .double (2 : Int32) [(.double 0), (.double 0)] (.double 0) := f173_11.other W180 (od_i1_el)
    have f180_13 : Arv Z h180 vl kvl .double (2 : Int32) [(.double 0), (.double 0)] (.double 0) := f173_13.other W180 (od_vl_el)
    have f180_14 : Arv Z h180 m0 km0 .double (4 : Int32) [(.double 4607182418800017408), (.double 0), (.double 4607182418800017408), (.double 0)] (.double 0) := f173_14.other W180 (od_el_m0.symm)
    have f180_15 : Arv Z h180 m1 km1 .double (4 : Int32) [(.double 0), (.double uy), (.double 13830554455654793216), (.double 4607182418800017408)] (.double 0) := V173.other W180 (od_el_m1.symm)
    have N180 := Fr.snoc X180 N173 g_el
    have Z180 : n0 ≤ h180.size := Nat.le_trans Z173 (Keep.of_wr W180).1
    have K180 : Keep h0 h180 [el, m0, m1, i0, i1, vl] := K173.wr W180 (Or.inl (List.mem_of_getElem? (i := 0) rfl))
    refine own_go (A := oW p e below T180 (oF_inv m 171 (oR sx) (oR el) (oi 1) (oi 1) (oR m1) (od FP.dconst1) .second (oi 2) (od FP.dconst1) .second (oi 4) [(.ref m1), (.int 1), (.ref el)])) (fun t k => by
      refine XS.aloadN X180.here hx rfl (hb hby o214_167) rfl rfl ?_
      refine XS.iloadN X180.here hx rfl (hb hby o214_168) rfl ?_
      refine XS.aload X180.here hx rfl (hb hby o214_169) rfl rfl ?_
      exact k) ?_
    obtain ⟨cl181, Ar181, q181, S181, N181, H181, G181⟩ := id (f180_6)
    have hi181 : ¬ ((1 : Int32) < 0 ∨ cl181.slots.size ≤ ((1 : Int32)).toNatClampNeg) := inb_of S181 ⟨by decide, by decide⟩
    obtain ⟨T182, h182, X182, e182, W182, st182⟩ := stR X180 hx hZ e180 Ar181 (j := (1 : Int32)) hi181 rfl (Sto.ofVA Ar181 q181 Oel (Ins.self (Gp16.keep K180))) (g := (oF_inv m 171 (oR sx) (oR el) (oi 1) (oi 1) (oR m1) (od FP.dconst1) .second (oi 2) (od FP.dconst1) .second (oi 4) [(.ref m1), (.int 1), (.ref el)])) rfl rfl (hb hby o214_171)
    refine own_go st182 ?_
    have V182 : Arv Z h182 el kel (.array .double) (2 : Int32) [(.ref m0), (.ref m1)] .null := Arv.set Ar181 q181 S181 N181 H181 G181 rfl W182 1 rfl (Nat.le_of_ble_eq_true rfl)
    have f182_6 : Arv Z h182 el kel (.array .double) (2 : Int32) [(.ref m0), (.ref m1)] .null := V182
    have f182_10 : Arv Z h182 i0 ki0 .double (2 : Int32) [(.double 0), (.double 0)] (.double 0) := f180_10.other W182 (od_i0_el)
    have f182_11 : Arv Z h182 i1 ki1 .double (2 : Int32) [(.double 0), (.double 0)] (.double 0) := f180_11.other W182 (od_i1_el)
    have f182_13 : Arv Z h182 vl kvl .double (2 : Int32) [(.double 0), (.double 0)] (.double 0) := f180_13.other W182 (od_vl_el)
    have f182_14 : Arv Z h182 m0 km0 .double (4 : Int32) [(.double 4607182418800017408), (.double 0), (.double 4607182418800017408), (.double 0)] (.double 0) := f180_14.other W182 (od_el_m0.symm)
    have f182_15 : Arv Z h182 m1 km1 .double (4 : Int32) [(.double 0), (.double uy), (.double 13830554455654793216), (.double 4607182418800017408)] (.double 0) := f180_15.other W182 (od_el_m1.symm)
    have N182 := Fr.snoc X182 N180 g_el
    have Z182 : n0 ≤ h182.size := Nat.le_trans Z180 (Keep.of_wr W182).1
    have K182 : Keep h0 h182 [el, m0, m1, i0, i1, vl] := K180.wr W182 (Or.inl (List.mem_of_getElem? (i := 0) rfl))
    refine own_go (A := oW p e below T182 (oF_inv m 186 (oR sx) (oR el) (oi 1) (oi 1) (oR m1) (od uy) .second (oi 0) (od FP.dconst1) .second (oi 4) [(.ref sx), (.int 2), (.int 0)])) (fun t k => by
      refine XS.aloadN X182.here hx rfl (hb hby o214_172) rfl rfl ?_
      show oW p e below T182 (oF_inv m 173 (oR sx) (oR el) (oi 1) (oi 1) (oR m1) (od FP.dconst1) .second (oi 2) (od FP.dconst1) .second (oi 4) [(.ref el)]) _
      refine XS.iloadN X182.here hx rfl (hb hby o214_173) rfl ?_
      refine own_ldA X182 hx hZ e182 f182_6 ⟨by decide, by decide⟩ (v := (.ref m1)) rfl (g := (oF_inv m 174 (oR sx) (oR el) (oi 1) (oi 1) (oR m1) (od FP.dconst1) .second (oi 2) (od FP.dconst1) .second (oi 4) [(.int 1), (.ref el)])) rfl rfl (hb hby o214_174) _ ?_
      refine XS.iloadN X182.here hx rfl (hb hby o214_175) rfl ?_
      refine own_ldD X182 hx hZ e182 f182_15 ⟨by decide, by decide⟩ (v := (.double uy)) rfl (g := (oF_inv m 176 (oR sx) (oR el) (oi 1) (oi 1) (oR m1) (od FP.dconst1) .second (oi 2) (od FP.dconst1) .second (oi 4) [(.int 1), (.ref m1)])) rfl rfl (hb hby o214_176) _ ?_
      refine XS.dstore X182.here hx rfl (hb hby o214_177) rfl (l' := #[(oR sx), (oR el), (oi 1), (oi 1), (oR m1), (od uy), .second, (oi 2), (od FP.dconst1), .second, (oi 4)]) rfl ?_
      refine XS.iconst X182.here hx rfl (hb hby o214_179) ?_
      show oW p e below T182 (oF_inv m 180 (oR sx) (oR el) (oi 1) (oi 1) (oR m1) (od uy) .second (oi 2) (od FP.dconst1) .second (oi 4) [(.int 0)]) _
      refine XS.istore X182.here hx rfl (hb hby o214_180) rfl (l' := #[(oR sx), (oR el), (oi 1), (oi 1), (oR m1), (od uy), .second, (oi 0), (od FP.dconst1), .second, (oi 4)]) rfl ?_
      refine XS.iload X182.here hx rfl (hb hby o214_182) rfl ?_
      refine XS.iconst X182.here hx rfl (hb hby o214_184) ?_
      refine XS.aloadN X182.here hx rfl (hb hby o214_185) rfl rfl ?_
      exact k) ?_
    obtain ⟨T183, X183, e183, st183⟩ := getF X182 hx hZ hown (host := "") (Or.inl ow25) Via.refl e182 (Gp1.keep K182 nn_sx) (g := (oF_inv m 186 (oR sx) (oR el) (oi 1) (oi 1) (oR m1) (od uy) .second (oi 0) (od FP.dconst1) .second (oi 4) [(.ref sx), (.int 2), (.int 0)])) rfl rfl (hb hby o214_186)
    refine own_go st183 ?_
    refine own_go (A := oW p e below T183 (oF_inv m 203 (oR sx) (oR el) (oi 1) (oi 1) (oR m1) (od uy) .second (oi 0) (od FP.dconst1) .second (oi 4) [(.double 0), (.int 0), (.ref m1)])) (fun t k => by
      refine XS.imul X183.here hx rfl (hb hby o214_189) rfl ?_
      refine XS.icmpNo X183.here hx rfl (hb hby o214_190) rfl (tlt (by decide : (0 : Int32) < (4 : Int32))).2.1 ?_
      show oW p e below T183 (oF_inv m 193 (oR sx) (oR el) (oi 1) (oi 1) (oR m1) (od uy) .second (oi 0) (od FP.dconst1) .second (oi 4) []) _
      refine XS.aloadN X183.here hx rfl (hb hby o214_193) rfl rfl ?_
      refine XS.iloadN X183.here hx rfl (hb hby o214_194) rfl ?_
      refine own_ldA X183 hx hZ e183 f182_6 ⟨by decide, by decide⟩ (v := (.ref m1)) rfl (g := (oF_inv m 195 (oR sx) (oR el) (oi 1) (oi 1) (oR m1) (od uy) .second (oi 0) (od FP.dconst1) .second (oi 4) [(.int 1), (.ref el)])) rfl rfl (hb hby o214_195) _ ?_
      refine XS.iload X183.here hx rfl (hb hby o214_196) rfl ?_
      refine XT.dup2 X183.here hx rfl (hb hby o214_198) rfl rfl rfl ?_
      refine own_ldD X183 hx hZ e183 f182_15 ⟨by decide, by decide⟩ (v := (.double 0)) rfl (g := (oF_inv m 199 (oR sx) (oR el) (oi 1) (oi 1) (oR m1) (od uy) .second (oi 0) (od FP.dconst1) .second (oi 4) [(.int 0), (.ref m1), (.int 0), (.ref m1)])) rfl rfl (hb hby o214_199) _ ?_
      show oW p e below T183 (oF_inv m 200 (oR sx) (oR el) (oi 1) (oi 1) (oR m1) (od uy) .second (oi 0) (od FP.dconst1) .second (oi 4) [(.double 0), (.int 0), (.ref m1)]) _
      refine XS.dload X183.here hx rfl (hb hby o214_200) rfl ?_
      refine XS.ddivS X183.here hx rfl (hb hby o214_202) rfl (own_f27n hPx hPy) (own_f27 hPx hPy) ?_
      exact k) ?_
    obtain ⟨T184, h184, X184, e184, W184, U184, st184⟩ := own_stD X183 hx hZ e183 f182_15 (j := (0 : Int32)) ⟨by decide, by decide⟩ 0 rfl (Nat.le_of_ble_eq_true rfl) (g := (oF_inv m 203 (oR sx) (oR el) (oi 1) (oi 1) (oR m1) (od uy) .second (oi 0) (od FP.dconst1) .second (oi 4) [(.double 0), (.int 0), (.ref m1)])) rfl rfl (hb hby o214_203)
    refine own_go st184 ?_
    have V184 : Arv Z h184 m1 km1 .double (4 : Int32) [(.double 0), (.double uy), (.double 13830554455654793216), (.double 4607182418800017408)] (.double 0) := U184
    have f184_6 : Arv Z h184 el kel (.array .double) (2 : Int32) [(.ref m0), (.ref m1)] .null := f182_6.other W184 (od_el_m1)
    have f184_10 : Arv Z h184 i0 ki0 .double (2 : Int32) [(.double 0), (.double 0)] (.double 0) := f182_10.other W184 (od_i0_m1)
    have f184_11 : Arv Z h184 i1 ki1 .double (2 : Int32) [(.double 0), (.double 0)] (.double 0) := f182_11.other W184 (od_i1_m1)
    have f184_13 : Arv Z h184 vl kvl .double (2 : Int32) [(.double 0), (.double 0)] (.double 0) := f182_13.other W184 (od_vl_m1)
    have f184_14 : Arv Z h184 m0 km0 .double (4 : Int32) [(.double 4607182418800017408), (.double 0), (.double 4607182418800017408), (.double 0)] (.double 0) := f182_14.other W184 (od_m0_m1)
    have N184 := Fr.snoc X184 N182 g_m1
    have Z184 : n0 ≤ h184.size := Nat.le_trans Z182 (Keep.of_wr W184).1
    have K184 : Keep h0 h184 [el, m0, m1, i0, i1, vl] := K182.wr W184 (Or.inl (List.mem_of_getElem? (i := 2) rfl))
    refine own_go (A := oW p e below T184 (oF_inv m 186 (oR sx) (oR el) (oi 1) (oi 1) (oR m1) (od uy) .second (oi 1) (od FP.dconst1) .second (oi 4) [(.ref sx), (.int 2), (.int 1)])) (fun t k => by
      refine XS.iinc X184.here hx rfl (hb hby o214_204) rfl (l' := #[(oR sx), (oR el), (oi 1), (oi 1), (oR m1), (od uy), .second, (oi 1), (od FP.dconst1), .second, (oi 4)]) rfl ?_
      refine XS.goto X184.here hx rfl (pc0 := 207) (pc' := 182) rfl (hb hby o214_207) (by decide) (by decide) ?_
      refine XS.iload X184.here hx rfl (hb hby o214_182) rfl ?_
      refine XS.iconst X184.here hx rfl (hb hby o214_184) ?_
      show oW p e below T184 (oF_inv m 185 (oR sx) (oR el) (oi 1) (oi 1) (oR m1) (od uy) .second (oi 1) (od FP.dconst1) .second (oi 4) [(.int 2), (.int 1)]) _
      refine XS.aloadN X184.here hx rfl (hb hby o214_185) rfl rfl ?_
      exact k) ?_
    obtain ⟨T185, X185, e185, st185⟩ := getF X184 hx hZ hown (host := "") (Or.inl ow25) Via.refl e184 (Gp1.keep K184 nn_sx) (g := (oF_inv m 186 (oR sx) (oR el) (oi 1) (oi 1) (oR m1) (od uy) .second (oi 1) (od FP.dconst1) .second (oi 4) [(.ref sx), (.int 2), (.int 1)])) rfl rfl (hb hby o214_186)
    refine own_go st185 ?_
    refine own_go (A := oW p e below T185 (oF_inv m 203 (oR sx) (oR el) (oi 1) (oi 1) (oR m1) (od uy) .second (oi 1) (od FP.dconst1) .second (oi 4) [(.double 4607182418800017408), (.int 1), (.ref m1)])) (fun t k => by
      refine XS.imul X185.here hx rfl (hb hby o214_189) rfl ?_
      refine XS.icmpNo X185.here hx rfl (hb hby o214_190) rfl (tlt (by decide : (1 : Int32) < (4 : Int32))).2.1 ?_
      refine XS.aloadN X185.here hx rfl (hb hby o214_193) rfl rfl ?_
      refine XS.iloadN X185.here hx rfl (hb hby o214_194) rfl ?_
      refine own_ldA X185 hx hZ e185 f184_6 ⟨by decide, by decide⟩ (v := (.ref m1)) rfl (g := (oF_inv m 195 (oR sx) (oR el) (oi 1) (oi 1) (oR m1) (od uy) .second (oi 1) (od FP.dconst1) .second (oi 4) [(.int 1), (.ref el)])) rfl rfl (hb hby o214_195) _ ?_
      show oW p e below T185 (oF_inv m 196 (oR sx) (oR el) (oi 1) (oi 1) (oR m1) (od uy) .second (oi 1) (od FP.dconst1) .second (oi 4) [(.ref m1)]) _
      refine XS.iload X185.here hx rfl (hb hby o214_196) rfl ?_
      refine XT.dup2 X185.here hx rfl (hb hby o214_198) rfl rfl rfl ?_
      refine own_ldD X185 hx hZ e185 V184 ⟨by decide, by decide⟩ (v := (.double uy)) rfl (g := (oF_inv m 199 (oR sx) (oR el) (oi 1) (oi 1) (oR m1) (od uy) .second (oi 1) (od FP.dconst1) .second (oi 4) [(.int 1), (.ref m1), (.int 1), (.ref m1)])) rfl rfl (hb hby o214_199) _ ?_
      refine XS.dload X185.here hx rfl (hb hby o214_200) rfl ?_
      refine XS.ddivS X185.here hx rfl (hb hby o214_202) rfl (own_f11n hPx hPy) (own_f11 hPx hPy) ?_
      exact k) ?_
    obtain ⟨T186, h186, X186, e186, W186, U186, st186⟩ := own_stD X185 hx hZ e185 V184 (j := (1 : Int32)) ⟨by decide, by decide⟩ 1 rfl (Nat.le_of_ble_eq_true rfl) (g := (oF_inv m 203 (oR sx) (oR el) (oi 1) (oi 1) (oR m1) (od uy) .second (oi 1) (od FP.dconst1) .second (oi 4) [(.double 4607182418800017408), (.int 1), (.ref m1)])) rfl rfl (hb hby o214_203)
    refine own_go st186 ?_
    have V186 : Arv Z h186 m1 km1 .double (4 : Int32) [(.double 0), (.double 4607182418800017408), (.double 13830554455654793216), (.double 4607182418800017408)] (.double 0) := U186
    have f186_6 : Arv Z h186 el kel (.array .double) (2 : Int32) [(.ref m0), (.ref m1)] .null := f184_6.other W186 (od_el_m1)
    have f186_10 : Arv Z h186 i0 ki0 .double (2 : Int32) [(.double 0), (.double 0)] (.double 0) := f184_10.other W186 (od_i0_m1)
    have f186_11 : Arv Z h186 i1 ki1 .double (2 : Int32) [(.double 0), (.double 0)] (.double 0) := f184_11.other W186 (od_i1_m1)
    have f186_13 : Arv Z h186 vl kvl .double (2 : Int32) [(.double 0), (.double 0)] (.double 0) := f184_13.other W186 (od_vl_m1)
    have f186_14 : Arv Z h186 m0 km0 .double (4 : Int32) [(.double 4607182418800017408), (.double 0), (.double 4607182418800017408), (.double 0)] (.double 0) := f184_14.other W186 (od_m0_m1)
    have N186 := Fr.snoc X186 N184 g_m1
    have Z186 : n0 ≤ h186.size := Nat.le_trans Z184 (Keep.of_wr W186).1
    have K186 : Keep h0 h186 [el, m0, m1, i0, i1, vl] := K184.wr W186 (Or.inl (List.mem_of_getElem? (i := 2) rfl))
    refine own_go (A := oW p e below T186 (oF_inv m 186 (oR sx) (oR el) (oi 1) (oi 1) (oR m1) (od uy) .second (oi 2) (od FP.dconst1) .second (oi 4) [(.ref sx), (.int 2), (.int 2)])) (fun t k => by
      refine XS.iinc X186.here hx rfl (hb hby o214_204) rfl (l' := #[(oR sx), (oR el), (oi 1), (oi 1), (oR m1), (od uy), .second, (oi 2), (od FP.dconst1), .second, (oi 4)]) rfl ?_
      show oW p e below T186 (oF_inv m 207 (oR sx) (oR el) (oi 1) (oi 1) (oR m1) (od uy) .second (oi 2) (od FP.dconst1) .second (oi 4) []) _
      refine XS.goto X186.here hx rfl (pc0 := 207) (pc' := 182) rfl (hb hby o214_207) (by decide) (by decide) ?_
      refine XS.iload X186.here hx rfl (hb hby o214_182) rfl ?_
      refine XS.iconst X186.here hx rfl (hb hby o214_184) ?_
      refine XS.aloadN X186.here hx rfl (hb hby o214_185) rfl rfl ?_
      exact k) ?_
    obtain ⟨T187, X187, e187, st187⟩ := getF X186 hx hZ hown (host := "") (Or.inl ow25) Via.refl e186 (Gp1.keep K186 nn_sx) (g := (oF_inv m 186 (oR sx) (oR el) (oi 1) (oi 1) (oR m1) (od uy) .second (oi 2) (od FP.dconst1) .second (oi 4) [(.ref sx), (.int 2), (.int 2)])) rfl rfl (hb hby o214_186)
    refine own_go st187 ?_
    refine own_go (A := oW p e below T187 (oF_inv m 203 (oR sx) (oR el) (oi 1) (oi 1) (oR m1) (od uy) .second (oi 2) (od FP.dconst1) .second (oi 4) [(.double wy), (.int 2), (.ref m1)])) (fun t k => by
      refine XS.imul X187.here hx rfl (hb hby o214_189) rfl ?_
      refine XS.icmpNo X187.here hx rfl (hb hby o214_190) rfl (tlt (by decide : (2 : Int32) < (4 : Int32))).2.1 ?_
      show oW p e below T187 (oF_inv m 193 (oR sx) (oR el) (oi 1) (oi 1) (oR m1) (od uy) .second (oi 2) (od FP.dconst1) .second (oi 4) []) _
      refine XS.aloadN X187.here hx rfl (hb hby o214_193) rfl rfl ?_
      refine XS.iloadN X187.here hx rfl (hb hby o214_194) rfl ?_
      refine own_ldA X187 hx hZ e187 f186_6 ⟨by decide, by decide⟩ (v := (.ref m1)) rfl (g := (oF_inv m 195 (oR sx) (oR el) (oi 1) (oi 1) (oR m1) (od uy) .second (oi 2) (od FP.dconst1) .second (oi 4) [(.int 1), (.ref el)])) rfl rfl (hb hby o214_195) _ ?_
      refine XS.iload X187.here hx rfl (hb hby o214_196) rfl ?_
      refine XT.dup2 X187.here hx rfl (hb hby o214_198) rfl rfl rfl ?_
      refine own_ldD X187 hx hZ e187 V186 ⟨by decide, by decide⟩ (v := (.double 13830554455654793216)) rfl (g := (oF_inv m 199 (oR sx) (oR el) (oi 1) (oi 1) (oR m1) (od uy) .second (oi 2) (od FP.dconst1) .second (oi 4) [(.int 2), (.ref m1), (.int 2), (.ref m1)])) rfl rfl (hb hby o214_199) _ ?_
      show oW p e below T187 (oF_inv m 200 (oR sx) (oR el) (oi 1) (oi 1) (oR m1) (od uy) .second (oi 2) (od FP.dconst1) .second (oi 4) [(.double 13830554455654793216), (.int 2), (.ref m1)]) _
      refine XS.dload X187.here hx rfl (hb hby o214_200) rfl ?_
      refine XS.ddivS X187.here hx rfl (hb hby o214_202) rfl (own_f28n hPx hPy) (own_f28 hPx hPy) ?_
      exact k) ?_
    obtain ⟨T188, h188, X188, e188, W188, U188, st188⟩ := own_stD X187 hx hZ e187 V186 (j := (2 : Int32)) ⟨by decide, by decide⟩ 2 rfl (Nat.le_of_ble_eq_true rfl) (g := (oF_inv m 203 (oR sx) (oR el) (oi 1) (oi 1) (oR m1) (od uy) .second (oi 2) (od FP.dconst1) .second (oi 4) [(.double wy), (.int 2), (.ref m1)])) rfl rfl (hb hby o214_203)
    refine own_go st188 ?_
    have V188 : Arv Z h188 m1 km1 .double (4 : Int32) [(.double 0), (.double 4607182418800017408), (.double wy), (.double 4607182418800017408)] (.double 0) := U188
    have f188_6 : Arv Z h188 el kel (.array .double) (2 : Int32) [(.ref m0), (.ref m1)] .null := f186_6.other W188 (od_el_m1)
    have f188_10 : Arv Z h188 i0 ki0 .double (2 : Int32) [(.double 0), (.double 0)] (.double 0) := f186_10.other W188 (od_i0_m1)
    have f188_11 : Arv Z h188 i1 ki1 .double (2 : Int32) [(.double 0), (.double 0)] (.double 0) := f186_11.other W188 (od_i1_m1)
    have f188_13 : Arv Z h188 vl kvl .double (2 : Int32) [(.double 0), (.double 0)] (.double 0) := f186_13.other W188 (od_vl_m1)
    have f188_14 : Arv Z h188 m0 km0 .double (4 : Int32) [(.double 4607182418800017408), (.double 0), (.double 4607182418800017408), (.double 0)] (.double 0) := f186_14.other W188 (od_m0_m1)
    have N188 := Fr.snoc X188 N186 g_m1
    have Z188 : n0 ≤ h188.size := Nat.le_trans Z186 (Keep.of_wr W188).1
    have K188 : Keep h0 h188 [el, m0, m1, i0, i1, vl] := K186.wr W188 (Or.inl (List.mem_of_getElem? (i := 2) rfl))
    refine own_go (A := oW p e below T188 (oF_inv m 186 (oR sx) (oR el) (oi 1) (oi 1) (oR m1) (od uy) .second (oi 3) (od FP.dconst1) .second (oi 4) [(.ref sx), (.int 2), (.int 3)])) (fun t k => by
      refine XS.iinc X188.here hx rfl (hb hby o214_204) rfl (l' := #[(oR sx), (oR el), (oi 1), (oi 1), (oR m1), (od uy), .second, (oi 3), (od FP.dconst1), .second, (oi 4)]) rfl ?_
      refine XS.goto X188.here hx rfl (pc0 := 207) (pc' := 182) rfl (hb hby o214_207) (by decide) (by decide) ?_
      refine XS.iload X188.here hx rfl (hb hby o214_182) rfl ?_
      refine XS.iconst X188.here hx rfl (hb hby o214_184) ?_
      show oW p e below T188 (oF_inv m 185 (oR sx) (oR el) (oi 1) (oi 1) (oR m1) (od uy) .second (oi 3) (od FP.dconst1) .second (oi 4) [(.int 2), (.int 3)]) _
      refine XS.aloadN X188.here hx rfl (hb hby o214_185) rfl rfl ?_
      exact k) ?_
    obtain ⟨T189, X189, e189, st189⟩ := getF X188 hx hZ hown (host := "") (Or.inl ow25) Via.refl e188 (Gp1.keep K188 nn_sx) (g := (oF_inv m 186 (oR sx) (oR el) (oi 1) (oi 1) (oR m1) (od uy) .second (oi 3) (od FP.dconst1) .second (oi 4) [(.ref sx), (.int 2), (.int 3)])) rfl rfl (hb hby o214_186)
    refine own_go st189 ?_
    refine own_go (A := oW p e below T189 (oF_inv m 203 (oR sx) (oR el) (oi 1) (oi 1) (oR m1) (od uy) .second (oi 3) (od FP.dconst1) .second (oi 4) [(.double vy), (.int 3), (.ref m1)])) (fun t k => by
      refine XS.imul X189.here hx rfl (hb hby o214_189) rfl ?_
      refine XS.icmpNo X189.here hx rfl (hb hby o214_190) rfl (tlt (by decide : (3 : Int32) < (4 : Int32))).2.1 ?_
      refine XS.aloadN X189.here hx rfl (hb hby o214_193) rfl rfl ?_
      refine XS.iloadN X189.here hx rfl (hb hby o214_194) rfl ?_
      refine own_ldA X189 hx hZ e189 f188_6 ⟨by decide, by decide⟩ (v := (.ref m1)) rfl (g := (oF_inv m 195 (oR sx) (oR el) (oi 1) (oi 1) (oR m1) (od uy) .second (oi 3) (od FP.dconst1) .second (oi 4) [(.int 1), (.ref el)])) rfl rfl (hb hby o214_195) _ ?_
      show oW p e below T189 (oF_inv m 196 (oR sx) (oR el) (oi 1) (oi 1) (oR m1) (od uy) .second (oi 3) (od FP.dconst1) .second (oi 4) [(.ref m1)]) _
      refine XS.iload X189.here hx rfl (hb hby o214_196) rfl ?_
      refine XT.dup2 X189.here hx rfl (hb hby o214_198) rfl rfl rfl ?_
      refine own_ldD X189 hx hZ e189 V188 ⟨by decide, by decide⟩ (v := (.double 4607182418800017408)) rfl (g := (oF_inv m 199 (oR sx) (oR el) (oi 1) (oi 1) (oR m1) (od uy) .second (oi 3) (od FP.dconst1) .second (oi 4) [(.int 3), (.ref m1), (.int 3), (.ref m1)])) rfl rfl (hb hby o214_199) _ ?_
      refine XS.dload X189.here hx rfl (hb hby o214_200) rfl ?_
      refine XS.ddivS X189.here hx rfl (hb hby o214_202) rfl (own_f29n hPx hPy) (own_f29 hPx hPy) ?_
      exact k) ?_
    obtain ⟨T190, h190, X190, e190, W190, U190, st190⟩ := own_stD X189 hx hZ e189 V188 (j := (3 : Int32)) ⟨by decide, by decide⟩ 3 rfl (Nat.le_of_ble_eq_true rfl) (g := (oF_inv m 203 (oR sx) (oR el) (oi 1) (oi 1) (oR m1) (od uy) .second (oi 3) (od FP.dconst1) .second (oi 4) [(.double vy), (.int 3), (.ref m1)])) rfl rfl (hb hby o214_203)
    refine own_go st190 ?_
    have V190 : Arv Z h190 m1 km1 .double (4 : Int32) [(.double 0), (.double 4607182418800017408), (.double wy), (.double vy)] (.double 0) := U190
    have f190_6 : Arv Z h190 el kel (.array .double) (2 : Int32) [(.ref m0), (.ref m1)] .null := f188_6.other W190 (od_el_m1)
    have f190_10 : Arv Z h190 i0 ki0 .double (2 : Int32) [(.double 0), (.double 0)] (.double 0) := f188_10.other W190 (od_i0_m1)
    have f190_11 : Arv Z h190 i1 ki1 .double (2 : Int32) [(.double 0), (.double 0)] (.double 0) := f188_11.other W190 (od_i1_m1)
    have f190_13 : Arv Z h190 vl kvl .double (2 : Int32) [(.double 0), (.double 0)] (.double 0) := f188_13.other W190 (od_vl_m1)
    have f190_14 : Arv Z h190 m0 km0 .double (4 : Int32) [(.double 4607182418800017408), (.double 0), (.double 4607182418800017408), (.double 0)] (.double 0) := f188_14.other W190 (od_m0_m1)
    have N190 := Fr.snoc X190 N188 g_m1
    have Z190 : n0 ≤ h190.size := Nat.le_trans Z188 (Keep.of_wr W190).1
    have K190 : Keep h0 h190 [el, m0, m1, i0, i1, vl] := K188.wr W190 (Or.inl (List.mem_of_getElem? (i := 2) rfl))
    refine own_go (A := oW p e below T190 (oF_inv m 186 (oR sx) (oR el) (oi 1) (oi 1) (oR m1) (od uy) .second (oi 4) (od FP.dconst1) .second (oi 4) [(.ref sx), (.int 2), (.int 4)])) (fun t k => by
      refine XS.iinc X190.here hx rfl (hb hby o214_204) rfl (l' := #[(oR sx), (oR el), (oi 1), (oi 1), (oR m1), (od uy), .second, (oi 4), (od FP.dconst1), .second, (oi 4)]) rfl ?_
      show oW p e below T190 (oF_inv m 207 (oR sx) (oR el) (oi 1) (oi 1) (oR m1) (od uy) .second (oi 4) (od FP.dconst1) .second (oi 4) []) _
      refine XS.goto X190.here hx rfl (pc0 := 207) (pc' := 182) rfl (hb hby o214_207) (by decide) (by decide) ?_
      refine XS.iload X190.here hx rfl (hb hby o214_182) rfl ?_
      refine XS.iconst X190.here hx rfl (hb hby o214_184) ?_
      refine XS.aloadN X190.here hx rfl (hb hby o214_185) rfl rfl ?_
      exact k) ?_
    obtain ⟨T191, X191, e191, st191⟩ := getF X190 hx hZ hown (host := "") (Or.inl ow25) Via.refl e190 (Gp1.keep K190 nn_sx) (g := (oF_inv m 186 (oR sx) (oR el) (oi 1) (oi 1) (oR m1) (od uy) .second (oi 4) (od FP.dconst1) .second (oi 4) [(.ref sx), (.int 2), (.int 4)])) rfl rfl (hb hby o214_186)
    refine own_go st191 ?_
    refine own_go (A := oW p e below T191 (oF_inv m 216 (oR sx) (oR el) (oi 1) (oi 1) (oR m1) (od uy) .second (oi 0) (od FP.dconst1) .second (oi 4) [(.ref sx), (.int 0)])) (fun t k => by
      refine XS.imul X191.here hx rfl (hb hby o214_189) rfl ?_
      refine XS.icmpYes X191.here hx rfl (pc0 := 190) (pc' := 210) rfl (hb hby o214_190) rfl (flt (by decide : ¬ ((4 : Int32) < (4 : Int32)))).2.1 (by decide) (by decide) ?_
      show oW p e below T191 (oF_inv m 210 (oR sx) (oR el) (oi 1) (oi 1) (oR m1) (od uy) .second (oi 4) (od FP.dconst1) .second (oi 4) []) _
      refine XS.iconst X191.here hx rfl (hb hby o214_210) ?_
      refine XS.istore X191.here hx rfl (hb hby o214_211) rfl (l' := #[(oR sx), (oR el), (oi 1), (oi 1), (oR m1), (od uy), .second, (oi 0), (od FP.dconst1), .second, (oi 4)]) rfl ?_
      refine XS.iload X191.here hx rfl (hb hby o214_213) rfl ?_
      refine XS.aloadN X191.here hx rfl (hb hby o214_215) rfl rfl ?_
      exact k) ?_
    obtain ⟨T192, X192, e192, st192⟩ := getF X191 hx hZ hown (host := "") (Or.inl ow25) Via.refl e191 (Gp1.keep K190 nn_sx) (g := (oF_inv m 216 (oR sx) (oR el) (oi 1) (oi 1) (oR m1) (od uy) .second (oi 0) (od FP.dconst1) .second (oi 4) [(.ref sx), (.int 0)])) rfl rfl (hb hby o214_216)
    refine own_go st192 ?_
    refine own_go (A := oW p e below T192 (oF_inv m 216 (oR sx) (oR el) (oi 1) (oi 1) (oR m1) (od uy) .second (oi 1) (od 0) .second (oi 4) [(.ref sx), (.int 1)])) (fun t k => by
      refine XS.icmpNo X192.here hx rfl (hb hby o214_219) rfl (tlt (by decide : (0 : Int32) < (2 : Int32))).2.1 ?_
      refine XS.aloadN X192.here hx rfl (hb hby o214_222) rfl rfl ?_
      show oW p e below T192 (oF_inv m 223 (oR sx) (oR el) (oi 1) (oi 1) (oR m1) (od uy) .second (oi 0) (od FP.dconst1) .second (oi 4) [(.ref el)]) _
      refine XS.iload X192.here hx rfl (hb hby o214_223) rfl ?_
      refine own_ldA X192 hx hZ e192 f190_6 ⟨by decide, by decide⟩ (v := (.ref m0)) rfl (g := (oF_inv m 225 (oR sx) (oR el) (oi 1) (oi 1) (oR m1) (od uy) .second (oi 0) (od FP.dconst1) .second (oi 4) [(.int 0), (.ref el)])) rfl rfl (hb hby o214_225) _ ?_
      refine XS.iloadN X192.here hx rfl (hb hby o214_226) rfl ?_
      refine own_ldD X192 hx hZ e192 f190_14 ⟨by decide, by decide⟩ (v := (.double 0)) rfl (g := (oF_inv m 227 (oR sx) (oR el) (oi 1) (oi 1) (oR m1) (od uy) .second (oi 0) (od FP.dconst1) .second (oi 4) [(.int 1), (.ref m0)])) rfl rfl (hb hby o214_227) _ ?_
      refine XS.dstore X192.here hx rfl (hb hby o214_228) rfl (l' := #[(oR sx), (oR el), (oi 1), (oi 1), (oR m1), (od uy), .second, (oi 0), (od 0), .second, (oi 4)]) rfl ?_
      refine XS.iload X192.here hx rfl (hb hby o214_230) rfl ?_
      show oW p e below T192 (oF_inv m 232 (oR sx) (oR el) (oi 1) (oi 1) (oR m1) (od uy) .second (oi 0) (od 0) .second (oi 4) [(.int 0)]) _
      refine XS.iloadN X192.here hx rfl (hb hby o214_232) rfl ?_
      refine XS.icmpNo X192.here hx rfl (hb hby o214_233) rfl (feq (by decide : ¬ ((0 : Int32) = (1 : Int32)))).1 ?_
      refine XS.dload X192.here hx rfl (hb hby o214_236) rfl ?_
      refine XS.dconst0 X192.here hx rfl (hb hby o214_238) rfl ?_
      refine XS.dcmpS X192.here hx rfl (hb hby o214_239) rfl (own_f13 hPx hPy) ?_
      refine XS.ifYes X192.here hx rfl (pc0 := 240) (pc' := 282) rfl (hb hby o214_240) rfl ((if0 _ _).trans (teq (by decide : (0 : Int32) = (0 : Int32))).1) (by decide) (by decide) ?_
      show oW p e below T192 (oF_inv m 282 (oR sx) (oR el) (oi 1) (oi 1) (oR m1) (od uy) .second (oi 0) (od 0) .second (oi 4) []) _
      refine XS.iinc X192.here hx rfl (hb hby o214_282) rfl (l' := #[(oR sx), (oR el), (oi 1), (oi 1), (oR m1), (od uy), .second, (oi 1), (od 0), .second, (oi 4)]) rfl ?_
      refine XS.goto X192.here hx rfl (pc0 := 285) (pc' := 213) rfl (hb hby o214_285) (by decide) (by decide) ?_
      refine XS.iload X192.here hx rfl (hb hby o214_213) rfl ?_
      refine XS.aloadN X192.here hx rfl (hb hby o214_215) rfl rfl ?_
      exact k) ?_
    obtain ⟨T193, X193, e193, st193⟩ := getF X192 hx hZ hown (host := "") (Or.inl ow25) Via.refl e192 (Gp1.keep K190 nn_sx) (g := (oF_inv m 216 (oR sx) (oR el) (oi 1) (oi 1) (oR m1) (od uy) .second (oi 1) (od 0) .second (oi 4) [(.ref sx), (.int 1)])) rfl rfl (hb hby o214_216)
    refine own_go st193 ?_
    refine own_go (A := oW p e below T193 (oF_inv m 216 (oR sx) (oR el) (oi 1) (oi 1) (oR m1) (od uy) .second (oi 2) (od 4607182418800017408) .second (oi 4) [(.ref sx), (.int 2)])) (fun t k => by
      refine XS.icmpNo X193.here hx rfl (hb hby o214_219) rfl (tlt (by decide : (1 : Int32) < (2 : Int32))).2.1 ?_
      refine XS.aloadN X193.here hx rfl (hb hby o214_222) rfl rfl ?_
      show oW p e below T193 (oF_inv m 223 (oR sx) (oR el) (oi 1) (oi 1) (oR m1) (od uy) .second (oi 1) (od 0) .second (oi 4) [(.ref el)]) _
      refine XS.iload X193.here hx rfl (hb hby o214_223) rfl ?_
      refine own_ldA X193 hx hZ e193 f190_6 ⟨by decide, by decide⟩ (v := (.ref m1)) rfl (g := (oF_inv m 225 (oR sx) (oR el) (oi 1) (oi 1) (oR m1) (od uy) .second (oi 1) (od 0) .second (oi 4) [(.int 1), (.ref el)])) rfl rfl (hb hby o214_225) _ ?_
      refine XS.iloadN X193.here hx rfl (hb hby o214_226) rfl ?_
      refine own_ldD X193 hx hZ e193 V190 ⟨by decide, by decide⟩ (v := (.double 4607182418800017408)) rfl (g := (oF_inv m 227 (oR sx) (oR el) (oi 1) (oi 1) (oR m1) (od uy) .second (oi 1) (od 0) .second (oi 4) [(.int 1), (.ref m1)])) rfl rfl (hb hby o214_227) _ ?_
      refine XS.dstore X193.here hx rfl (hb hby o214_228) rfl (l' := #[(oR sx), (oR el), (oi 1), (oi 1), (oR m1), (od uy), .second, (oi 1), (od 4607182418800017408), .second, (oi 4)]) rfl ?_
      refine XS.iload X193.here hx rfl (hb hby o214_230) rfl ?_
      show oW p e below T193 (oF_inv m 232 (oR sx) (oR el) (oi 1) (oi 1) (oR m1) (od uy) .second (oi 1) (od 4607182418800017408) .second (oi 4) [(.int 1)]) _
      refine XS.iloadN X193.here hx rfl (hb hby o214_232) rfl ?_
      refine XS.icmpYes X193.here hx rfl (pc0 := 233) (pc' := 282) rfl (hb hby o214_233) rfl (teq (by decide : (1 : Int32) = (1 : Int32))).1 (by decide) (by decide) ?_
      refine XS.iinc X193.here hx rfl (hb hby o214_282) rfl (l' := #[(oR sx), (oR el), (oi 1), (oi 1), (oR m1), (od uy), .second, (oi 2), (od 4607182418800017408), .second, (oi 4)]) rfl ?_
      refine XS.goto X193.here hx rfl (pc0 := 285) (pc' := 213) rfl (hb hby o214_285) (by decide) (by decide) ?_
      refine XS.iload X193.here hx rfl (hb hby o214_213) rfl ?_
      refine XS.aloadN X193.here hx rfl (hb hby o214_215) rfl rfl ?_
      exact k) ?_
    obtain ⟨T194, X194, e194, st194⟩ := getF X193 hx hZ hown (host := "") (Or.inl ow25) Via.refl e193 (Gp1.keep K190 nn_sx) (g := (oF_inv m 216 (oR sx) (oR el) (oi 1) (oi 1) (oR m1) (od uy) .second (oi 2) (od 4607182418800017408) .second (oi 4) [(.ref sx), (.int 2)])) rfl rfl (hb hby o214_216)
    refine own_go st194 ?_
    refine own_go (A := oW p e below T194 (oF_inv m 87 (oR sx) (oR el) (oi 2) (oi 1) (oR m1) (od uy) .second (oi 2) (od 4607182418800017408) .second (oi 4) [(.ref sx), (.int 2)])) (fun t k => by
      refine XS.icmpYes X194.here hx rfl (pc0 := 219) (pc' := 288) rfl (hb hby o214_219) rfl (flt (by decide : ¬ ((2 : Int32) < (2 : Int32)))).2.1 (by decide) (by decide) ?_
      refine XS.iinc X194.here hx rfl (hb hby o214_288) rfl (l' := #[(oR sx), (oR el), (oi 2), (oi 1), (oR m1), (od uy), .second, (oi 2), (od 4607182418800017408), .second, (oi 4)]) rfl ?_
      refine XS.goto X194.here hx rfl (pc0 := 291) (pc' := 85) rfl (hb hby o214_291) (by decide) (by decide) ?_
      refine XS.iloadN X194.here hx rfl (hb hby o214_85) rfl ?_
      refine XS.aloadN X194.here hx rfl (hb hby o214_86) rfl rfl ?_
      exact k) ?_
    obtain ⟨T195, X195, e195, st195⟩ := getF X194 hx hZ hown (host := "") (Or.inl ow25) Via.refl e194 (Gp1.keep K190 nn_sx) (g := (oF_inv m 87 (oR sx) (oR el) (oi 2) (oi 1) (oR m1) (od uy) .second (oi 2) (od 4607182418800017408) .second (oi 4) [(.ref sx), (.int 2)])) rfl rfl (hb hby o214_87)
    refine own_go st195 ?_
    refine own_go (A := oW p e below T195 (oF_inv m 298 (oR sx) (oR el) (oi 0) (oi 1) (oR m1) (od uy) .second (oi 2) (od 4607182418800017408) .second (oi 4) [(.ref sx), (.int 0)])) (fun t k => by
      refine XS.icmpYes X195.here hx rfl (pc0 := 90) (pc' := 294) rfl (hb hby o214_90) rfl (flt (by decide : ¬ ((2 : Int32) < (2 : Int32)))).2.1 (by decide) (by decide) ?_
      show oW p e below T195 (oF_inv m 294 (oR sx) (oR el) (oi 2) (oi 1) (oR m1) (od uy) .second (oi 2) (od 4607182418800017408) .second (oi 4) []) _
      refine XS.iconst X195.here hx rfl (hb hby o214_294) ?_
      refine XS.istoreN X195.here hx rfl (hb hby o214_295) rfl (l' := #[(oR sx), (oR el), (oi 0), (oi 1), (oR m1), (od uy), .second, (oi 2), (od 4607182418800017408), .second, (oi 4)]) rfl ?_
      refine XS.iloadN X195.here hx rfl (hb hby o214_296) rfl ?_
      refine XS.aloadN X195.here hx rfl (hb hby o214_297) rfl rfl ?_
      exact k) ?_
    obtain ⟨T196, X196, e196, st196⟩ := getF X195 hx hZ hown (host := "") (Or.inl ow25) Via.refl e195 (Gp1.keep K190 nn_sx) (g := (oF_inv m 298 (oR sx) (oR el) (oi 0) (oi 1) (oR m1) (od uy) .second (oi 2) (od 4607182418800017408) .second (oi 4) [(.ref sx), (.int 0)])) rfl rfl (hb hby o214_298)
    refine own_go st196 ?_
    refine own_go (A := oW p e below T196 (oF_inv m 308 (oR sx) (oR el) (oi 0) (oi 1) (oR m1) (od uy) .second (oi 2) (od 4607182418800017408) .second (oi 4) [(.ref sx), (.ref m0)])) (fun t k => by
      refine XS.icmpNo X196.here hx rfl (hb hby o214_301) rfl (tlt (by decide : (0 : Int32) < (2 : Int32))).2.1 ?_
      refine XS.aloadN X196.here hx rfl (hb hby o214_304) rfl rfl ?_
      show oW p e below T196 (oF_inv m 305 (oR sx) (oR el) (oi 0) (oi 1) (oR m1) (od uy) .second (oi 2) (od 4607182418800017408) .second (oi 4) [(.ref el)]) _
      refine XS.iloadN X196.here hx rfl (hb hby o214_305) rfl ?_
      refine own_ldA X196 hx hZ e196 f190_6 ⟨by decide, by decide⟩ (v := (.ref m0)) rfl (g := (oF_inv m 306 (oR sx) (oR el) (oi 0) (oi 1) (oR m1) (od uy) .second (oi 2) (od 4607182418800017408) .second (oi 4) [(.int 0), (.ref el)])) rfl rfl (hb hby o214_306) _ ?_
      refine XS.aloadN X196.here hx rfl (hb hby o214_307) rfl rfl ?_
      exact k) ?_
    obtain ⟨T197, X197, e197, st197⟩ := getF X196 hx hZ hown (host := "") (Or.inl ow25) Via.refl e196 (Gp1.keep K190 nn_sx) (g := (oF_inv m 308 (oR sx) (oR el) (oi 0) (oi 1) (oR m1) (od uy) .second (oi 2) (od 4607182418800017408) .second (oi 4) [(.ref sx), (.ref m0)])) rfl rfl (hb hby o214_308)
    refine own_go st197 ?_
    refine own_go (A := oW p e below T197 (oF_inv m 312 (oR sx) (oR el) (oi 0) (oi 1) (oR m1) (od uy) .second (oi 2) (od 4607182418800017408) .second (oi 4) [(.ref sx), (.int 2), (.ref m0)])) (fun t k => by
      refine XS.aloadN X197.here hx rfl (hb hby o214_311) rfl rfl ?_
      exact k) ?_
    obtain ⟨T198, X198, e198, st198⟩ := getF X197 hx hZ hown (host := "") (Or.inl ow40) Via.refl e197 (Gp5.keep K190 nn_sx) (g := (oF_inv m 312 (oR sx) (oR el) (oi 0) (oi 1) (oR m1) (od uy) .second (oi 2) (od 4607182418800017408) .second (oi 4) [(.ref sx), (.int 2), (.ref m0)])) rfl rfl (hb hby o214_312)
    refine own_go st198 ?_
    refine own_go (A := oW p e below T198 (oF_inv m 319 (oR sx) (oR el) (oi 0) (oi 1) (oR m1) (od uy) .second (oi 2) (od 4607182418800017408) .second (oi 4) [(.ref sx), (.int 0), (.ref i0), (.int 2), (.ref m0)])) (fun t k => by
      refine XS.iloadN X198.here hx rfl (hb hby o214_315) rfl ?_
      refine own_ldA X198 hx hZ e198 (Gp17.keep K190 nn_iv) ⟨by decide, by decide⟩ (v := (.ref i0)) rfl (g := (oF_inv m 316 (oR sx) (oR el) (oi 0) (oi 1) (oR m1) (od uy) .second (oi 2) (od 4607182418800017408) .second (oi 4) [(.int 0), (.ref iv), (.int 2), (.ref m0)])) rfl rfl (hb hby o214_316) _ ?_
      show oW p e below T198 (oF_inv m 317 (oR sx) (oR el) (oi 0) (oi 1) (oR m1) (od uy) .second (oi 2) (od 4607182418800017408) .second (oi 4) [(.ref i0), (.int 2), (.ref m0)]) _
      refine XS.iconst X198.here hx rfl (hb hby o214_317) ?_
      refine XS.aloadN X198.here hx rfl (hb hby o214_318) rfl rfl ?_
      exact k) ?_
    obtain ⟨T199, X199, e199, st199⟩ := getF X198 hx hZ hown (host := "") (Or.inl ow25) Via.refl e198 (Gp1.keep K190 nn_sx) (g := (oF_inv m 319 (oR sx) (oR el) (oi 0) (oi 1) (oR m1) (od uy) .second (oi 2) (od 4607182418800017408) .second (oi 4) [(.ref sx), (.int 0), (.ref i0), (.int 2), (.ref m0)])) rfl rfl (hb hby o214_319)
    refine own_go st199 ?_
    obtain ⟨T200, h200, L200, X200, e200, N200, Kc200, A200, st200⟩ := cpA X199 hx hZ hown ow81 ow84 ow82 ow83 e199 f190_14 f190_10 (us := [(.double 4607182418800017408), (.double 0)]) (Or.inl ⟨rfl, rfl⟩) (by decide) (by decide) (by decide) (by decide) (by decide) rfl (by decide) N190 g_i0 (g := (oF_inv m 322 (oR sx) (oR el) (oi 0) (oi 1) (oR m1) (od uy) .second (oi 2) (od 4607182418800017408) .second (oi 4) [(.int 2), (.int 0), (.ref i0), (.int 2), (.ref m0)])) rfl (by rw [hml]; rfl) rfl (hb hby o214_322) (by decide) (W := 0) (by show 2 * 0 + _ ≤ _; exact Nat.le_of_eq rfl) (by decide)
    refine own_go st200 ?_
    have V200 : Arv Z h200 i0 ki0 .double (2 : Int32) [(.double 4607182418800017408), (.double 0)] (.double 0) := A200
    have f200_6 : Arv Z h200 el kel (.array .double) (2 : Int32) [(.ref m0), (.ref m1)] .null := f190_6.keep Kc200 (ninS od_i0_el.symm nin0)
    have f200_10 : Arv Z h200 i0 ki0 .double (2 : Int32) [(.double 4607182418800017408), (.double 0)] (.double 0) := V200
    have f200_11 : Arv Z h200 i1 ki1 .double (2 : Int32) [(.double 0), (.double 0)] (.double 0) := f190_11.keep Kc200 (ninS od_i0_i1.symm nin0)
    have f200_13 : Arv Z h200 vl kvl .double (2 : Int32) [(.double 0), (.double 0)] (.double 0) := f190_13.keep Kc200 (ninS od_i0_vl.symm nin0)
    have f200_14 : Arv Z h200 m0 km0 .double (4 : Int32) [(.double 4607182418800017408), (.double 0), (.double 4607182418800017408), (.double 0)] (.double 0) := f190_14.keep Kc200 (ninS od_i0_m0.symm nin0)
    have f200_15 : Arv Z h200 m1 km1 .double (4 : Int32) [(.double 0), (.double 4607182418800017408), (.double wy), (.double vy)] (.double 0) := V190.keep Kc200 (ninS od_i0_m1.symm nin0)
    have Z200 : n0 ≤ h200.size := Nat.le_trans Z190 Kc200.1
    have K200 : Keep h0 h200 [el, m0, m1, i0, i1, vl] := K190.trans Kc200 (allS (Or.inl (List.mem_of_getElem? (i := 3) rfl)) all0)
    refine own_go (A := oW p e below T200 (oF_inv m 298 (oR sx) (oR el) (oi 1) (oi 1) (oR m1) (od uy) .second (oi 2) (od 4607182418800017408) .second (oi 4) [(.ref sx), (.int 1)])) (fun t k => by
      refine XS.iinc X200.here hx rfl (hb hby o214_325) rfl (l' := #[(oR sx), (oR el), (oi 1), (oi 1), (oR m1), (od uy), .second, (oi 2), (od 4607182418800017408), .second, (oi 4)]) rfl ?_
      refine XS.goto X200.here hx rfl (pc0 := 328) (pc' := 296) rfl (hb hby o214_328) (by decide) (by decide) ?_
      refine XS.iloadN X200.here hx rfl (hb hby o214_296) rfl ?_
      refine XS.aloadN X200.here hx rfl (hb hby o214_297) rfl rfl ?_
      exact k) ?_
    obtain ⟨T201, X201, e201, st201⟩ := getF X200 hx hZ hown (host := "") (Or.inl ow25) Via.refl e200 (Gp1.keep K200 nn_sx) (g := (oF_inv m 298 (oR sx) (oR el) (oi 1) (oi 1) (oR m1) (od uy) .second (oi 2) (od 4607182418800017408) .second (oi 4) [(.ref sx), (.int 1)])) rfl rfl (hb hby o214_298)
    refine own_go st201 ?_
    refine own_go (A := oW p e below T201 (oF_inv m 308 (oR sx) (oR el) (oi 1) (oi 1) (oR m1) (od uy) .second (oi 2) (od 4607182418800017408) .second (oi 4) [(.ref sx), (.ref m1)])) (fun t k => by
      refine XS.icmpNo X201.here hx rfl (hb hby o214_301) rfl (tlt (by decide : (1 : Int32) < (2 : Int32))).2.1 ?_
      refine XS.aloadN X201.here hx rfl (hb hby o214_304) rfl rfl ?_
      refine XS.iloadN X201.here hx rfl (hb hby o214_305) rfl ?_
      refine own_ldA X201 hx hZ e201 f200_6 ⟨by decide, by decide⟩ (v := (.ref m1)) rfl (g := (oF_inv m 306 (oR sx) (oR el) (oi 1) (oi 1) (oR m1) (od uy) .second (oi 2) (od 4607182418800017408) .second (oi 4) [(.int 1), (.ref el)])) rfl rfl (hb hby o214_306) _ ?_
      refine XS.aloadN X201.here hx rfl (hb hby o214_307) rfl rfl ?_
      exact k) ?_
    obtain ⟨T202, X202, e202, st202⟩ := getF X201 hx hZ hown (host := "") (Or.inl ow25) Via.refl e201 (Gp1.keep K200 nn_sx) (g := (oF_inv m 308 (oR sx) (oR el) (oi 1) (oi 1) (oR m1) (od uy) .second (oi 2) (od 4607182418800017408) .second (oi 4) [(.ref sx), (.ref m1)])) rfl rfl (hb hby o214_308)
    refine own_go st202 ?_
    refine own_go (A := oW p e below T202 (oF_inv m 312 (oR sx) (oR el) (oi 1) (oi 1) (oR m1) (od uy) .second (oi 2) (od 4607182418800017408) .second (oi 4) [(.ref sx), (.int 2), (.ref m1)])) (fun t k => by
      refine XS.aloadN X202.here hx rfl (hb hby o214_311) rfl rfl ?_
      exact k) ?_
    obtain ⟨T203, X203, e203, st203⟩ := getF X202 hx hZ hown (host := "") (Or.inl ow40) Via.refl e202 (Gp5.keep K200 nn_sx) (g := (oF_inv m 312 (oR sx) (oR el) (oi 1) (oi 1) (oR m1) (od uy) .second (oi 2) (od 4607182418800017408) .second (oi 4) [(.ref sx), (.int 2), (.ref m1)])) rfl rfl (hb hby o214_312)
    refine own_go st203 ?_
    refine own_go (A := oW p e below T203 (oF_inv m 319 (oR sx) (oR el) (oi 1) (oi 1) (oR m1) (od uy) .second (oi 2) (od 4607182418800017408) .second (oi 4) [(.ref sx), (.int 0), (.ref i1), (.int 2), (.ref m1)])) (fun t k => by
      refine XS.iloadN X203.here hx rfl (hb hby o214_315) rfl ?_
      refine own_ldA X203 hx hZ e203 (Gp17.keep K200 nn_iv) ⟨by decide, by decide⟩ (v := (.ref i1)) rfl (g := (oF_inv m 316 (oR sx) (oR el) (oi 1) (oi 1) (oR m1) (od uy) .second (oi 2) (od 4607182418800017408) .second (oi 4) [(.int 1), (.ref iv), (.int 2), (.ref m1)])) rfl rfl (hb hby o214_316) _ ?_
      refine XS.iconst X203.here hx rfl (hb hby o214_317) ?_
      refine XS.aloadN X203.here hx rfl (hb hby o214_318) rfl rfl ?_
      exact k) ?_
    obtain ⟨T204, X204, e204, st204⟩ := getF X203 hx hZ hown (host := "") (Or.inl ow25) Via.refl e203 (Gp1.keep K200 nn_sx) (g := (oF_inv m 319 (oR sx) (oR el) (oi 1) (oi 1) (oR m1) (od uy) .second (oi 2) (od 4607182418800017408) .second (oi 4) [(.ref sx), (.int 0), (.ref i1), (.int 2), (.ref m1)])) rfl rfl (hb hby o214_319)
    refine own_go st204 ?_
    obtain ⟨T205, h205, L205, X205, e205, N205, Kc205, A205, st205⟩ := cpA X204 hx hZ hown ow81 ow84 ow82 ow83 e204 f200_15 f200_11 (us := [(.double wy), (.double vy)]) (Or.inl ⟨rfl, rfl⟩) (by decide) (by decide) (by decide) (by decide) (by decide) rfl (by decide) N200 g_i1 (g := (oF_inv m 322 (oR sx) (oR el) (oi 1) (oi 1) (oR m1) (od uy) .second (oi 2) (od 4607182418800017408) .second (oi 4) [(.int 2), (.int 0), (.ref i1), (.int 2), (.ref m1)])) rfl (by rw [hml]; rfl) rfl (hb hby o214_322) (by decide) (W := 0) (by show 2 * 0 + _ ≤ _; exact Nat.le_of_eq rfl) (by decide)
    refine own_go st205 ?_
    have V205 : Arv Z h205 i1 ki1 .double (2 : Int32) [(.double wy), (.double vy)] (.double 0) := A205
    have f205_6 : Arv Z h205 el kel (.array .double) (2 : Int32) [(.ref m0), (.ref m1)] .null := f200_6.keep Kc205 (ninS od_i1_el.symm nin0)
    have f205_10 : Arv Z h205 i0 ki0 .double (2 : Int32) [(.double 4607182418800017408), (.double 0)] (.double 0) := f200_10.keep Kc205 (ninS od_i0_i1 nin0)
    have f205_11 : Arv Z h205 i1 ki1 .double (2 : Int32) [(.double wy), (.double vy)] (.double 0) := V205
    have f205_13 : Arv Z h205 vl kvl .double (2 : Int32) [(.double 0), (.double 0)] (.double 0) := f200_13.keep Kc205 (ninS od_i1_vl.symm nin0)
    have f205_14 : Arv Z h205 m0 km0 .double (4 : Int32) [(.double 4607182418800017408), (.double 0), (.double 4607182418800017408), (.double 0)] (.double 0) := f200_14.keep Kc205 (ninS od_i1_m0.symm nin0)
    have f205_15 : Arv Z h205 m1 km1 .double (4 : Int32) [(.double 0), (.double 4607182418800017408), (.double wy), (.double vy)] (.double 0) := f200_15.keep Kc205 (ninS od_i1_m1.symm nin0)
    have Z205 : n0 ≤ h205.size := Nat.le_trans Z200 Kc205.1
    have K205 : Keep h0 h205 [el, m0, m1, i0, i1, vl] := K200.trans Kc205 (allS (Or.inl (List.mem_of_getElem? (i := 4) rfl)) all0)
    refine own_go (A := oW p e below T205 (oF_inv m 298 (oR sx) (oR el) (oi 2) (oi 1) (oR m1) (od uy) .second (oi 2) (od 4607182418800017408) .second (oi 4) [(.ref sx), (.int 2)])) (fun t k => by
      refine XS.iinc X205.here hx rfl (hb hby o214_325) rfl (l' := #[(oR sx), (oR el), (oi 2), (oi 1), (oR m1), (od uy), .second, (oi 2), (od 4607182418800017408), .second, (oi 4)]) rfl ?_
      refine XS.goto X205.here hx rfl (pc0 := 328) (pc' := 296) rfl (hb hby o214_328) (by decide) (by decide) ?_
      show oW p e below T205 (oF_inv m 296 (oR sx) (oR el) (oi 2) (oi 1) (oR m1) (od uy) .second (oi 2) (od 4607182418800017408) .second (oi 4) []) _
      refine XS.iloadN X205.here hx rfl (hb hby o214_296) rfl ?_
      refine XS.aloadN X205.here hx rfl (hb hby o214_297) rfl rfl ?_
      exact k) ?_
    obtain ⟨T206, X206, e206, st206⟩ := getF X205 hx hZ hown (host := "") (Or.inl ow25) Via.refl e205 (Gp1.keep K205 nn_sx) (g := (oF_inv m 298 (oR sx) (oR el) (oi 2) (oi 1) (oR m1) (od uy) .second (oi 2) (od 4607182418800017408) .second (oi 4) [(.ref sx), (.int 2)])) rfl rfl (hb hby o214_298)
    refine own_go st206 ?_
    refine own_go (A := oW p e below T206 (oF_inv m 333 (oR sx) (oR el) (oi 2) (oi 1) (oR m1) (od uy) .second (oi 2) (od 4607182418800017408) .second (oi 4) [(.ref sx), (.ref sx)])) (fun t k => by
      refine XS.icmpYes X206.here hx rfl (pc0 := 301) (pc' := 331) rfl (hb hby o214_301) rfl (flt (by decide : ¬ ((2 : Int32) < (2 : Int32)))).2.1 (by decide) (by decide) ?_
      refine XS.aloadN X206.here hx rfl (hb hby o214_331) rfl rfl ?_
      refine XS.aloadN X206.here hx rfl (hb hby o214_332) rfl rfl ?_
      exact k) ?_
    obtain ⟨T207, X207, e207, st207⟩ := getF X206 hx hZ hown (host := "") (Or.inl ow35) Via.refl e206 (Gp6.keep K205 nn_sx) (g := (oF_inv m 333 (oR sx) (oR el) (oi 2) (oi 1) (oR m1) (od uy) .second (oi 2) (od 4607182418800017408) .second (oi 4) [(.ref sx), (.ref sx)])) rfl rfl (hb hby o214_333)
    refine own_go st207 ?_
    refine own_go (A := oW p e below T207 (oF_inv m 337 (oR sx) (oR el) (oi 2) (oi 1) (oR m1) (od uy) .second (oi 2) (od 4607182418800017408) .second (oi 4) [(.ref sx), (.ref li), (.ref sx)])) (fun t k => by
      refine XS.aloadN X207.here hx rfl (hb hby o214_336) rfl rfl ?_
      exact k) ?_
    obtain ⟨T208, X208, e208, st208⟩ := getF X207 hx hZ hown (host := "") (Or.inl ow42) Via.refl e207 (Gp7.keep K205 nn_sx) (g := (oF_inv m 337 (oR sx) (oR el) (oi 2) (oi 1) (oR m1) (od uy) .second (oi 2) (od 4607182418800017408) .second (oi 4) [(.ref sx), (.ref li), (.ref sx)])) rfl rfl (hb hby o214_337)
    refine own_go st208 ?_
    obtain ⟨cq209, q209a, q209b⟩ := Exa.cell (Gp0.keep K205)
    obtain ⟨_, _, ⟨T209, L209, k209, n209⟩, -, X209, ⟨Lc209, hQ209, l209, y209, z209⟩, st209⟩ := own_privBack X208 hx (y := (⟨"com/example/composure/composure/select/Simplex", "times", "([D[D)V"⟩ : MethodName)) (z := (⟨"com/example/composure/composure/select/Simplex", "add", "([DD)I"⟩ : MethodName)) (w := (⟨"com/example/composure/composure/select/Simplex", "add", "([DD)I"⟩ : MethodName)) hown (mvT hZ ow85) (mvT hZ ow86) (mvT hZ ow57) rfl (Cond.privateMethod_at (mvP hZ ow87 (args := #[]))) (mvT hZ ow88) (by decide) (backOf (W := 0) (own_rm_times l Z a0 hw [] sx li vl co y0 y1 cs bc ba iv i0 i1 el m0 m1 pb kiv ki0 ki1 kli kvl (4607182418800017408 : UInt64) (0 : UInt64) wy vy dl dm (0 : UInt64) (0 : UInt64) h205 n0 Z205 hnd g_vl ok0 ok1 (Gp0.keep K205) (Gp1.keep K205 nn_sx) (Gp5.keep K205 nn_sx) (Gp17.keep K205 nn_iv) f205_10 f205_11 (Gp20.keep K205 nn_li) f205_13) hZ ow88 ow7 (by decide) (by decide)) (g := (oF_inv m 340 (oR sx) (oR el) (oi 2) (oi 1) (oR m1) (od uy) .second (oi 2) (od 4607182418800017408) .second (oi 4) [(.ref vl), (.ref li), (.ref sx)])) rfl (by rw [hml]; rfl) (Steps.refl _) (a := sx) (by rw [e208]; exact q209a) q209b (argsL := [(.ref li), (.ref vl)]) (rest := []) (lenOf own_pd_285bD5bD29V rfl) rfl (by show 2 * 0 + _ ≤ _; exact Nat.le_of_eq rfl) (hb hby o214_340) (fun _ _ => ⟨rfl, e208, (by decide : 0 + 0 ≤ _), (by decide : 0 + 0 ≤ _)⟩)
    dsimp only [Pt.U, Pt.locs, Pt.cells, Pt.slots] at X209 l209 y209 z209 st209 hQ209
    subst l209 y209 z209
    obtain ⟨rfl, N209q, K209q, p209_0⟩ := hQ209
    have N209 := Fr.app N205 N209q
    have f209_6 : Arv Z T209.heap el kel (.array .double) (2 : Int32) [(.ref m0), (.ref m1)] .null := f205_6.keep K209q (ninS od_vl_el.symm nin0)
    have f209_10 : Arv Z T209.heap i0 ki0 .double (2 : Int32) [(.double 4607182418800017408), (.double 0)] (.double 0) := f205_10.keep K209q (ninS od_i0_vl nin0)
    have f209_11 : Arv Z T209.heap i1 ki1 .double (2 : Int32) [(.double wy), (.double vy)] (.double 0) := f205_11.keep K209q (ninS od_i1_vl nin0)
    have f209_14 : Arv Z T209.heap m0 km0 .double (4 : Int32) [(.double 4607182418800017408), (.double 0), (.double 4607182418800017408), (.double 0)] (.double 0) := f205_14.keep K209q (ninS od_vl_m0.symm nin0)
    have f209_15 : Arv Z T209.heap m1 km1 .double (4 : Int32) [(.double 0), (.double 4607182418800017408), (.double wy), (.double vy)] (.double 0) := f205_15.keep K209q (ninS od_vl_m1.symm nin0)
    have Z209 : n0 ≤ T209.heap.size := Nat.le_trans Z205 K209q.1
    have K209 : Keep h0 T209.heap [el, m0, m1, i0, i1, vl] := K205.trans K209q (allS (Or.inl (List.mem_of_getElem? (i := 5) rfl)) all0)
    refine own_go (fun _ k => st209.trans k) ?_
    refine own_go (A := oW p e below T209 (oF_inv m 344 (oR sx) (oR el) (oi 2) (oi 1) (oR m1) (od uy) .second (oi 2) (od 4607182418800017408) .second (oi 4) [(.int 1)])) (fun t k => by
      refine XS.iconst X209.here hx rfl (hb hby o214_343) ?_
      exact k) ?_
    obtain ⟨fs, hr, hrun, hended, hW, hsame⟩ := X209.leave (v := some (.int (nar .boolean (1 : Int32)))) (fun h => by rw [Bd.returns] at h; cases h)
    refine ⟨_, _, retN X209 hx (t := .boolean) Bd.returns (by simp) (hb hby o214_344) hr, hPf _ _ ⟨hrun, hended, _, _, rfl, ?_, ⟨_, rfl⟩, hW, hsame.mono (by decide) (by decide)⟩⟩
    show own_Q_inv Z sx co y0 y1 cs bc li ba iv i0 i1 vl el m0 m1 pb kco ky0 ky1 kcs kbc kli kba kiv ki0 ki1 kvl kel km0 km1 kpb ux vx wx uy vy wy dl dm FP.dconst1 FP.dconst0 FP.dconst1 uy (4607182418800017408 : UInt64) (0 : UInt64) wy vy b0 b1 vco h0 n0 _ T209.heap _
    exact ⟨rfl, N209, K209, p209_0⟩
theorem own_lt16 {b : Int32} (h : ¬ b < 0 ∧ b < 16) : b.toNatClampNeg < 16 := by
  obtain ⟨h1, h2⟩ := h
  rw [Int32.lt_iff_toInt_lt] at h1 h2
  have a : (0 : Int32).toInt = 0 := rfl
  have b : (16 : Int32).toInt = 16 := rfl
  simp only [Int32.toNatClampNeg]; omega
abbrev oF_start (m : MethodId) (pc : Nat) (a0 a1 a2 a3 a4 a5 a6 : Slot) (S : List Value) : JFrame := mkF m pc #[a0, a1, a2, a3, a4, a5, a6] S
theorem o725_0 : decode prog_72_method_5_code 0 = .ok (.iconst 0, 1) := by decide +kernel
theorem o725_1 : decode prog_72_method_5_code 1 = .ok (.istore_n 2, 1) := by decide +kernel
theorem o725_2 : decode prog_72_method_5_code 2 = .ok (.iload_n 2, 1) := by decide +kernel
theorem o725_3 : decode prog_72_method_5_code 3 = .ok (.aload_n 0, 1) := by decide +kernel
theorem o725_4 : decode prog_72_method_5_code 4 = .ok (.getfield 25, 3) := by decide +kernel
theorem o725_7 : decode prog_72_method_5_code 7 = .ok (.if_icmp .ge 51, 3) := by decide +kernel
theorem o725_10 : decode prog_72_method_5_code 10 = .ok (.aload_n 0, 1) := by decide +kernel
theorem o725_11 : decode prog_72_method_5_code 11 = .ok (.getfield 36, 3) := by decide +kernel
theorem o725_14 : decode prog_72_method_5_code 14 = .ok (.iload_n 2, 1) := by decide +kernel
theorem o725_15 : decode prog_72_method_5_code 15 = .ok (.iaload, 1) := by decide +kernel
theorem o725_16 : decode prog_72_method_5_code 16 = .ok (.ifCond .lt 15, 3) := by decide +kernel
theorem o725_31 : decode prog_72_method_5_code 31 = .ok (.aload_n 0, 1) := by decide +kernel
theorem o725_32 : decode prog_72_method_5_code 32 = .ok (.getfield 36, 3) := by decide +kernel
theorem o725_35 : decode prog_72_method_5_code 35 = .ok (.iload_n 2, 1) := by decide +kernel
theorem o725_36 : decode prog_72_method_5_code 36 = .ok (.aload_n 1, 1) := by decide +kernel
theorem o725_37 : decode prog_72_method_5_code 37 = .ok (.iload_n 2, 1) := by decide +kernel
theorem o725_38 : decode prog_72_method_5_code 38 = .ok (.iaload, 1) := by decide +kernel
theorem o725_39 : decode prog_72_method_5_code 39 = .ok (.iastore, 1) := by decide +kernel
theorem o725_40 : decode prog_72_method_5_code 40 = .ok (.aload_n 0, 1) := by decide +kernel
theorem o725_41 : decode prog_72_method_5_code 41 = .ok (.getfield 22, 3) := by decide +kernel
theorem o725_44 : decode prog_72_method_5_code 44 = .ok (.aload_n 0, 1) := by decide +kernel
theorem o725_45 : decode prog_72_method_5_code 45 = .ok (.getfield 36, 3) := by decide +kernel
theorem o725_48 : decode prog_72_method_5_code 48 = .ok (.iload_n 2, 1) := by decide +kernel
theorem o725_49 : decode prog_72_method_5_code 49 = .ok (.iaload, 1) := by decide +kernel
theorem o725_50 : decode prog_72_method_5_code 50 = .ok (.iconst 1, 1) := by decide +kernel
theorem o725_51 : decode prog_72_method_5_code 51 = .ok (.bastore, 1) := by decide +kernel
theorem o725_52 : decode prog_72_method_5_code 52 = .ok (.iinc 2 1, 3) := by decide +kernel
theorem o725_55 : decode prog_72_method_5_code 55 = .ok (.goto (-53), 3) := by decide +kernel
theorem o725_58 : decode prog_72_method_5_code 58 = .ok (.aload_n 0, 1) := by decide +kernel
theorem o725_59 : decode prog_72_method_5_code 59 = .ok (.invokevirtual 87, 3) := by decide +kernel
theorem own_pd_2829Z : parseMethodDescriptor "()Z" = some ⟨[], some .boolean⟩ := by decide +kernel
theorem o725_62 : decode prog_72_method_5_code 62 = .ok (.ifCond .ne 5, 3) := by decide +kernel
theorem o725_67 : decode prog_72_method_5_code 67 = .ok (.aload_n 0, 1) := by decide +kernel
theorem o725_68 : decode prog_72_method_5_code 68 = .ok (.getfield 44, 3) := by decide +kernel
theorem o725_71 : decode prog_72_method_5_code 71 = .ok (.astore_n 2, 1) := by decide +kernel
theorem o725_72 : decode prog_72_method_5_code 72 = .ok (.aload_n 2, 1) := by decide +kernel
theorem o725_73 : decode prog_72_method_5_code 73 = .ok (.arraylength, 1) := by decide +kernel
theorem o725_74 : decode prog_72_method_5_code 74 = .ok (.istore_n 3, 1) := by decide +kernel
theorem o725_75 : decode prog_72_method_5_code 75 = .ok (.iconst 0, 1) := by decide +kernel
theorem o725_76 : decode prog_72_method_5_code 76 = .ok (.istore 4, 2) := by decide +kernel
theorem o725_78 : decode prog_72_method_5_code 78 = .ok (.iload 4, 2) := by decide +kernel
theorem o725_80 : decode prog_72_method_5_code 80 = .ok (.iload_n 3, 1) := by decide +kernel
theorem o725_81 : decode prog_72_method_5_code 81 = .ok (.if_icmp .ge 26, 3) := by decide +kernel
theorem o725_84 : decode prog_72_method_5_code 84 = .ok (.aload_n 2, 1) := by decide +kernel
theorem o725_85 : decode prog_72_method_5_code 85 = .ok (.iload 4, 2) := by decide +kernel
theorem o725_87 : decode prog_72_method_5_code 87 = .ok (.daload, 1) := by decide +kernel
theorem o725_88 : decode prog_72_method_5_code 88 = .ok (.dstore 5, 2) := by decide +kernel
theorem o725_90 : decode prog_72_method_5_code 90 = .ok (.dload 5, 2) := by decide +kernel
theorem o725_92 : decode prog_72_method_5_code 92 = .ok (.ldc2_w 91, 3) := by decide +kernel
theorem o725_95 : decode prog_72_method_5_code 95 = .ok (.dcmp .g, 1) := by decide +kernel
theorem o725_96 : decode prog_72_method_5_code 96 = .ok (.ifCond .ge 5, 3) := by decide +kernel
theorem o725_101 : decode prog_72_method_5_code 101 = .ok (.iinc 4 1, 3) := by decide +kernel
theorem o725_104 : decode prog_72_method_5_code 104 = .ok (.goto (-26), 3) := by decide +kernel
theorem o725_107 : decode prog_72_method_5_code 107 = .ok (.iconst 1, 1) := by decide +kernel
theorem o725_108 : decode prog_72_method_5_code 108 = .ok (.ireturn, 1) := by decide +kernel
theorem own_ef_start (m : MethodId) (x0 : Addr) (x1 : Addr) : entryFrame m #[(.ref x0), (.ref x1)] 7 = mkF m 0 #[(oR x0), (oR x1), .unset, .unset, .unset, .unset, .unset] [] := by first | (simp [entryFrame, mkF, argsToLocals, Value.category]; done) | rfl
def own_Q_start (Z : State) (sx : Addr) (pb : Addr) (co y0 y1 cs bc li ba iv i0 i1 vl el m0 m1 : Addr) (kco ky0 ky1 kcs kbc kli kba kiv ki0 ki1 kvl kel km0 km1 kpb : ClassId) (ux vx wx uy vy wy dl dm mt00 mt01 mt10 mt11 q00 q01 q10 q11 : UInt64) (b0 b1 : Int32) (vco : List Value) (h0 : Heap) (n0 : Nat) (v : Option Value) (h : Heap) (L : List Loc) : Prop := v = some (.int 1) ∧ Fr n0 L ∧ Keep h0 h [ba, bc, el, m0, m1, i0, i1, vl] ∧ Arv Z h ba kba .int (2 : Int32) [(.int b0), (.int b1)] (.int 0) ∧ Arv Z h vl kvl .double (2 : Int32) [(.double (own_tot q00 q01 dl dm)), (.double (own_tot q10 q11 dl dm))] (.double 0)
set_option maxRecDepth 65536 in
set_option maxHeartbeats 40000000 in
theorem own_rm_start (l : Launch) (Z : State) (a0 : Array Value) (hw : ∀ d ∈ tables_1, d.before a0 Z = true) (ws : List Jvm.Cond) (sx : Addr) (pb : Addr) (co y0 y1 cs bc li ba iv i0 i1 vl el m0 m1 : Addr) (kco ky0 ky1 kcs kbc kli kba kiv ki0 ki1 kvl kel km0 km1 kpb : ClassId) (ux vx wx uy vy wy dl dm mt00 mt01 mt10 mt11 q00 q01 q10 q11 : UInt64) (b0 b1 : Int32) (vco : List Value) (h0 : Heap) (n0 : Nat) (Z0 : n0 ≤ h0.size) (hnd : ([sx, co, y0, y1, cs, bc, li, ba, iv, i0, i1, vl, el, m0, m1, pb] : List Addr).Nodup) (hPx : own_P ux vx wx) (hPy : own_P uy vy wy) (g_ba : n0 ≤ ba) (g_bc : n0 ≤ bc) (g_el : n0 ≤ el) (g_m0 : n0 ≤ m0) (g_m1 : n0 ≤ m1) (g_i0 : n0 ≤ i0) (g_i1 : n0 ≤ i1) (g_vl : n0 ≤ vl) (ok0 : own_ok q00 q01 dl dm) (ok1 : own_ok q10 q11 dl dm) (Oel : OvrA Z kel .double "[D") (hsel : (mt00 = ux ∧ mt01 = FP.dconst0 ∧ mt10 = FP.dconst0 ∧ mt11 = uy ∧ q00 = vx ∧ q01 = (0 : UInt64) ∧ q10 = (0 : UInt64) ∧ q11 = vy) ∨ (mt00 = FP.dconst0 ∧ mt01 = ux ∧ mt10 = uy ∧ mt11 = FP.dconst0 ∧ q00 = (0 : UInt64) ∧ q01 = vy ∧ q10 = vx ∧ q11 = (0 : UInt64)) ∨ (mt00 = FP.dconst1 ∧ mt01 = FP.dconst0 ∧ mt10 = FP.dconst1 ∧ mt11 = uy ∧ q00 = (4607182418800017408 : UInt64) ∧ q01 = (0 : UInt64) ∧ q10 = wy ∧ q11 = vy)) (hb0 : ¬ b0 < 0 ∧ b0 < 16) (hb1 : ¬ b1 < 0 ∧ b1 < 16) (hy0 : vco.getD b0.toNatClampNeg .null = .ref y0) (hy1 : vco.getD b1.toNatClampNeg .null = .ref y1) (ge0 : ¬ (cmpValue (FP.dcmp (own_tot q00 q01 dl dm) (13695778570484766357 : UInt64)) .g) < (0 : Int32)) (ge1 : ¬ (cmpValue (FP.dcmp (own_tot q10 q11 dl dm) (13695778570484766357 : UInt64)) .g) < (0 : Int32)) (Gp0 : Exa Z h0 sx "com/example/composure/composure/select/Simplex") (Gp1 : Fld Z h0 sx "com/example/composure/composure/select/Simplex" "rows" "I" (.int 2)) (Gp2 : Fld Z h0 sx "com/example/composure/composure/select/Simplex" "elimination" "[[D" (.ref el)) (Gp3 : Fld Z h0 sx "com/example/composure/composure/select/Simplex" "columns" "[[D" (.ref co)) (Gp4 : Fld Z h0 sx "com/example/composure/composure/select/Simplex" "basis" "[I" (.ref ba)) (Gp5 : Fld Z h0 sx "com/example/composure/composure/select/Simplex" "inverse" "[[D" (.ref iv)) (Gp6 : Fld Z h0 sx "com/example/composure/composure/select/Simplex" "limits" "[D" (.ref li)) (Gp7 : Fld Z h0 sx "com/example/composure/composure/select/Simplex" "values" "[D" (.ref vl)) (Gp8 : Arv Z h0 el kel (.array .double) (2 : Int32) [(.ref m0), (.ref m1)] .null) (Gp9 : Arv Z h0 co kco (.array .double) (16 : Int32) vco .null) (Gp10 : Arv Z h0 y0 ky0 .double (2 : Int32) [(.double mt00), (.double mt10)] (.double 0)) (Gp11 : Arv Z h0 y1 ky1 .double (2 : Int32) [(.double mt01), (.double mt11)] (.double 0)) (Gp12 : Arv Z h0 ba kba .int (2 : Int32) [(.int (-1)), (.int (-1))] (.int 0)) (Gp13 : Arv Z h0 m0 km0 .double (4 : Int32) [(.double 0), (.double 0), (.double 0), (.double 0)] (.double 0)) (Gp14 : Arv Z h0 m1 km1 .double (4 : Int32) [(.double 0), (.double 0), (.double 0), (.double 0)] (.double 0)) (Gp15 : Exa Z h0 m0 "[D") (Gp16 : Exa Z h0 m1 "[D") (Gp17 : Arv Z h0 iv kiv (.array .double) (2 : Int32) [(.ref i0), (.ref i1)] .null) (Gp18 : Arv Z h0 i0 ki0 .double (2 : Int32) [(.double 0), (.double 0)] (.double 0)) (Gp19 : Arv Z h0 i1 ki1 .double (2 : Int32) [(.double 0), (.double 0)] (.double 0)) (Gp20 : Arv Z h0 li kli .double (2 : Int32) [(.double dl), (.double dm)] (.double 0)) (Gp21 : Arv Z h0 vl kvl .double (2 : Int32) [(.double 0), (.double 0)] (.double 0)) (Gp22 : Fld Z h0 sx "com/example/composure/composure/select/Simplex" "basic" "[Z" (.ref bc)) (Gp23 : Arv Z h0 bc kbc .boolean (16 : Int32) [(.int 0), (.int 0), (.int 0), (.int 0), (.int 0), (.int 0), (.int 0), (.int 0), (.int 0), (.int 0), (.int 0), (.int 0), (.int 0), (.int 0), (.int 0), (.int 0)] (.int 0)) (Gp24 : Arv Z h0 pb kpb .int (2 : Int32) [(.int b0), (.int b1)] (.int 0)) :
    MetFree l (⟨"com/example/composure/composure/select/Simplex", "start", "([I)Z"⟩ : MethodName) (head1 (Jvm.Cond.code (⟨"com/example/composure/composure/select/Simplex", "start", "([I)Z"⟩ : MethodName) prog_72_method_5_code 7 (some .boolean) :: ws) ({ frames := 3, cells := 0, slots := 0, locals := 86 } : Room)) (fun a U => a = #[(.ref sx), (.ref pb)] ∧ Z.Warmed39 U.vm ∧ U.heap = h0) (fun _ _ _ _ _ => True) (fun _ U o U' => ∃ v L, o = .returned v ∧ own_Q_start Z sx pb co y0 y1 cs bc li ba iv i0 i1 vl el m0 m1 kco ky0 ky1 kcs kbc kli kba kiv ki0 ki1 kvl kel km0 km1 kpb ux vx wx uy vy wy dl dm mt00 mt01 mt10 mt11 q00 q01 q10 q11 b0 b1 vco h0 n0 v U'.heap L ∧ FrameEnd U o U' L ({ frames := 3, cells := 0, slots := 0, locals := 86 } : Room).cells ({ frames := 3, cells := 0, slots := 0, locals := 86 } : Room).slots) := by
  refine MetFree.of_bodySF (plainFor_of_name own_pn_com_example_composure_composure_select_Simplex) hisR ?_
  intro p e s m args below meth c s₁ Bd hml0 hP hKq_
  obtain ⟨rfl, hZ, hh⟩ := hP
  have hx := Bd.exec
  have hby := Bd.bytes
  have hml : c.maxLocals = 7 := hml0
  have hown : s.vm.findClass "com/example/composure/composure/select/Simplex" = some m.cls := findClass_of_methodNamed Bd.named
  have hnm := (name_of_methodNamed Bd.named Bd.method).1
  have ow7 := hw _ (List.mem_of_getElem? (i := 7) rfl)
  have ow23 := hw _ (List.mem_of_getElem? (i := 23) rfl)
  have ow25 := hw _ (List.mem_of_getElem? (i := 25) rfl)
  have ow37 := hw _ (List.mem_of_getElem? (i := 37) rfl)
  have ow42 := hw _ (List.mem_of_getElem? (i := 42) rfl)
  have ow57 := hw _ (List.mem_of_getElem? (i := 57) rfl)
  have ow66 := hw _ (List.mem_of_getElem? (i := 66) rfl)
  have ow67 := hw _ (List.mem_of_getElem? (i := 67) rfl)
  have ow68 := hw _ (List.mem_of_getElem? (i := 68) rfl)
  have ow69 := hw _ (List.mem_of_getElem? (i := 69) rfl)
  have ow89 := hw _ (List.mem_of_getElem? (i := 89) rfl)
  have X0 : Stand p l e ({ frames := 3, cells := 0, slots := 0, locals := 86 } : Room) s m #[(.ref sx), (.ref pb)] below meth c s₁ [] 0 0 := Stand.of_body Bd
  have e0 : s₁.heap = h0 := by rw [← hh, Bd.state]; rfl
  have N0 := Fr.nil n0
  have pre0 : ∀ t, Steps p.tables e below (s₁.setTop (mkF m 0 #[(oR sx), (oR pb), .unset, .unset, .unset, .unset, .unset] [])) t → Steps p.tables e below (s₁.setTop (entryFrame m #[(.ref sx), (.ref pb)] 7)) t := fun t k => castTop (own_ef_start m sx pb) k
  refine own_go pre0 ?_
  refine own_abs ?_
  intro Pf hPf
  have od_bc_ba : bc ≠ ba := (own_nd hnd (i := 5) (j := 7) rfl rfl (by decide))
  have od_bc_i0 : bc ≠ i0 := (own_nd hnd (i := 5) (j := 9) rfl rfl (by decide))
  have od_bc_i1 : bc ≠ i1 := (own_nd hnd (i := 5) (j := 10) rfl rfl (by decide))
  have od_bc_vl : bc ≠ vl := (own_nd hnd (i := 5) (j := 11) rfl rfl (by decide))
  have od_bc_el : bc ≠ el := (own_nd hnd (i := 5) (j := 12) rfl rfl (by decide))
  have od_bc_m0 : bc ≠ m0 := (own_nd hnd (i := 5) (j := 13) rfl rfl (by decide))
  have od_bc_m1 : bc ≠ m1 := (own_nd hnd (i := 5) (j := 14) rfl rfl (by decide))
  have od_ba_i0 : ba ≠ i0 := (own_nd hnd (i := 7) (j := 9) rfl rfl (by decide))
  have od_ba_i1 : ba ≠ i1 := (own_nd hnd (i := 7) (j := 10) rfl rfl (by decide))
  have od_ba_vl : ba ≠ vl := (own_nd hnd (i := 7) (j := 11) rfl rfl (by decide))
  have od_ba_el : ba ≠ el := (own_nd hnd (i := 7) (j := 12) rfl rfl (by decide))
  have od_ba_m0 : ba ≠ m0 := (own_nd hnd (i := 7) (j := 13) rfl rfl (by decide))
  have od_ba_m1 : ba ≠ m1 := (own_nd hnd (i := 7) (j := 14) rfl rfl (by decide))
  have od_i0_i1 : i0 ≠ i1 := (own_nd hnd (i := 9) (j := 10) rfl rfl (by decide))
  have od_i0_vl : i0 ≠ vl := (own_nd hnd (i := 9) (j := 11) rfl rfl (by decide))
  have od_i0_el : i0 ≠ el := (own_nd hnd (i := 9) (j := 12) rfl rfl (by decide))
  have od_i0_m0 : i0 ≠ m0 := (own_nd hnd (i := 9) (j := 13) rfl rfl (by decide))
  have od_i0_m1 : i0 ≠ m1 := (own_nd hnd (i := 9) (j := 14) rfl rfl (by decide))
  have od_i1_vl : i1 ≠ vl := (own_nd hnd (i := 10) (j := 11) rfl rfl (by decide))
  have od_i1_el : i1 ≠ el := (own_nd hnd (i := 10) (j := 12) rfl rfl (by decide))
  have od_i1_m0 : i1 ≠ m0 := (own_nd hnd (i := 10) (j := 13) rfl rfl (by decide))
  have od_i1_m1 : i1 ≠ m1 := (own_nd hnd (i := 10) (j := 14) rfl rfl (by decide))
  have od_vl_el : vl ≠ el := (own_nd hnd (i := 11) (j := 12) rfl rfl (by decide))
  have od_vl_m0 : vl ≠ m0 := (own_nd hnd (i := 11) (j := 13) rfl rfl (by decide))
  have od_vl_m1 : vl ≠ m1 := (own_nd hnd (i := 11) (j := 14) rfl rfl (by decide))
  have od_el_m0 : el ≠ m0 := (own_nd hnd (i := 12) (j := 13) rfl rfl (by decide))
  have od_el_m1 : el ≠ m1 := (own_nd hnd (i := 12) (j := 14) rfl rfl (by decide))
  have od_m0_m1 : m0 ≠ m1 := (own_nd hnd (i := 13) (j := 14) rfl rfl (by decide))
  have nn_co : co ∉ ([ba, bc, el, m0, m1, i0, i1, vl] : List Addr) := (ninS (own_nd hnd (i := 1) (j := 7) rfl rfl (by decide)) (ninS (own_nd hnd (i := 1) (j := 5) rfl rfl (by decide)) (ninS (own_nd hnd (i := 1) (j := 12) rfl rfl (by decide)) (ninS (own_nd hnd (i := 1) (j := 13) rfl rfl (by decide)) (ninS (own_nd hnd (i := 1) (j := 14) rfl rfl (by decide)) (ninS (own_nd hnd (i := 1) (j := 9) rfl rfl (by decide)) (ninS (own_nd hnd (i := 1) (j := 10) rfl rfl (by decide)) (ninS (own_nd hnd (i := 1) (j := 11) rfl rfl (by decide)) nin0))))))))
  have nn_iv : iv ∉ ([ba, bc, el, m0, m1, i0, i1, vl] : List Addr) := (ninS (own_nd hnd (i := 8) (j := 7) rfl rfl (by decide)) (ninS (own_nd hnd (i := 8) (j := 5) rfl rfl (by decide)) (ninS (own_nd hnd (i := 8) (j := 12) rfl rfl (by decide)) (ninS (own_nd hnd (i := 8) (j := 13) rfl rfl (by decide)) (ninS (own_nd hnd (i := 8) (j := 14) rfl rfl (by decide)) (ninS (own_nd hnd (i := 8) (j := 9) rfl rfl (by decide)) (ninS (own_nd hnd (i := 8) (j := 10) rfl rfl (by decide)) (ninS (own_nd hnd (i := 8) (j := 11) rfl rfl (by decide)) nin0))))))))
  have nn_li : li ∉ ([ba, bc, el, m0, m1, i0, i1, vl] : List Addr) := (ninS (own_nd hnd (i := 6) (j := 7) rfl rfl (by decide)) (ninS (own_nd hnd (i := 6) (j := 5) rfl rfl (by decide)) (ninS (own_nd hnd (i := 6) (j := 12) rfl rfl (by decide)) (ninS (own_nd hnd (i := 6) (j := 13) rfl rfl (by decide)) (ninS (own_nd hnd (i := 6) (j := 14) rfl rfl (by decide)) (ninS (own_nd hnd (i := 6) (j := 9) rfl rfl (by decide)) (ninS (own_nd hnd (i := 6) (j := 10) rfl rfl (by decide)) (ninS (own_nd hnd (i := 6) (j := 11) rfl rfl (by decide)) nin0))))))))
  have nn_pb : pb ∉ ([ba, bc, el, m0, m1, i0, i1, vl] : List Addr) := (ninS (own_nd hnd (i := 15) (j := 7) rfl rfl (by decide)) (ninS (own_nd hnd (i := 15) (j := 5) rfl rfl (by decide)) (ninS (own_nd hnd (i := 15) (j := 12) rfl rfl (by decide)) (ninS (own_nd hnd (i := 15) (j := 13) rfl rfl (by decide)) (ninS (own_nd hnd (i := 15) (j := 14) rfl rfl (by decide)) (ninS (own_nd hnd (i := 15) (j := 9) rfl rfl (by decide)) (ninS (own_nd hnd (i := 15) (j := 10) rfl rfl (by decide)) (ninS (own_nd hnd (i := 15) (j := 11) rfl rfl (by decide)) nin0))))))))
  have nn_sx : sx ∉ ([ba, bc, el, m0, m1, i0, i1, vl] : List Addr) := (ninS (own_nd hnd (i := 0) (j := 7) rfl rfl (by decide)) (ninS (own_nd hnd (i := 0) (j := 5) rfl rfl (by decide)) (ninS (own_nd hnd (i := 0) (j := 12) rfl rfl (by decide)) (ninS (own_nd hnd (i := 0) (j := 13) rfl rfl (by decide)) (ninS (own_nd hnd (i := 0) (j := 14) rfl rfl (by decide)) (ninS (own_nd hnd (i := 0) (j := 9) rfl rfl (by decide)) (ninS (own_nd hnd (i := 0) (j := 10) rfl rfl (by decide)) (ninS (own_nd hnd (i := 0) (j := 11) rfl rfl (by decide)) nin0))))))))
  have nn_y0 : y0 ∉ ([ba, bc, el, m0, m1, i0, i1, vl] : List Addr) := (ninS (own_nd hnd (i := 2) (j := 7) rfl rfl (by decide)) (ninS (own_nd hnd (i := 2) (j := 5) rfl rfl (by decide)) (ninS (own_nd hnd (i := 2) (j := 12) rfl rfl (by decide)) (ninS (own_nd hnd (i := 2) (j := 13) rfl rfl (by decide)) (ninS (own_nd hnd (i := 2) (j := 14) rfl rfl (by decide)) (ninS (own_nd hnd (i := 2) (j := 9) rfl rfl (by decide)) (ninS (own_nd hnd (i := 2) (j := 10) rfl rfl (by decide)) (ninS (own_nd hnd (i := 2) (j := 11) rfl rfl (by decide)) nin0))))))))
  have nn_y1 : y1 ∉ ([ba, bc, el, m0, m1, i0, i1, vl] : List Addr) := (ninS (own_nd hnd (i := 3) (j := 7) rfl rfl (by decide)) (ninS (own_nd hnd (i := 3) (j := 5) rfl rfl (by decide)) (ninS (own_nd hnd (i := 3) (j := 12) rfl rfl (by decide)) (ninS (own_nd hnd (i := 3) (j := 13) rfl rfl (by decide)) (ninS (own_nd hnd (i := 3) (j := 14) rfl rfl (by decide)) (ninS (own_nd hnd (i := 3) (j := 9) rfl rfl (by decide)) (ninS (own_nd hnd (i := 3) (j := 10) rfl rfl (by decide)) (ninS (own_nd hnd (i := 3) (j := 11) rfl rfl (by decide)) nin0))))))))
  refine own_go (A := oW p e below s₁ (oF_start m 4 (oR sx) (oR pb) (oi 0) .unset .unset .unset .unset [(.ref sx), (.int 0)])) (fun t k => by
    refine XS.iconst X0.here hx rfl (hb hby o725_0) ?_
    refine XS.istoreN X0.here hx rfl (hb hby o725_1) rfl (l' := #[(oR sx), (oR pb), (oi 0), .unset, .unset, .unset, .unset]) rfl ?_
    refine XS.iloadN X0.here hx rfl (hb hby o725_2) rfl ?_
    refine XS.aloadN X0.here hx rfl (hb hby o725_3) rfl rfl ?_
    exact k) ?_
  obtain ⟨T1, X1, e1, st1⟩ := getF X0 hx hZ hown (host := "") (Or.inl ow25) Via.refl e0 Gp1 (g := (oF_start m 4 (oR sx) (oR pb) (oi 0) .unset .unset .unset .unset [(.ref sx), (.int 0)])) rfl rfl (hb hby o725_4)
  refine own_go st1 ?_
  refine own_go (A := oW p e below T1 (oF_start m 11 (oR sx) (oR pb) (oi 0) .unset .unset .unset .unset [(.ref sx)])) (fun t k => by
    refine XS.icmpNo X1.here hx rfl (hb hby o725_7) rfl (tlt (by decide : (0 : Int32) < (2 : Int32))).2.1 ?_
    refine XS.aloadN X1.here hx rfl (hb hby o725_10) rfl rfl ?_
    exact k) ?_
  obtain ⟨T2, X2, e2, st2⟩ := getF X1 hx hZ hown (host := "") (Or.inl ow37) Via.refl e1 Gp4 (g := (oF_start m 11 (oR sx) (oR pb) (oi 0) .unset .unset .unset .unset [(.ref sx)])) rfl rfl (hb hby o725_11)
  refine own_go st2 ?_
  refine own_go (A := oW p e below T2 (oF_start m 32 (oR sx) (oR pb) (oi 0) .unset .unset .unset .unset [(.ref sx)])) (fun t k => by
    refine XS.iloadN X2.here hx rfl (hb hby o725_14) rfl ?_
    refine own_ldI X2 hx hZ e2 Gp12 ⟨by decide, by decide⟩ (v := (.int (-1))) rfl (g := (oF_start m 15 (oR sx) (oR pb) (oi 0) .unset .unset .unset .unset [(.int 0), (.ref ba)])) rfl rfl (hb hby o725_15) _ ?_
    show oW p e below T2 (oF_start m 16 (oR sx) (oR pb) (oi 0) .unset .unset .unset .unset [(.int (-1))]) _
    refine XS.ifYes X2.here hx rfl (pc0 := 16) (pc' := 31) rfl (hb hby o725_16) rfl ((if0 _ _).trans (tlt (by decide : (-1 : Int32) < (0 : Int32))).1) (by decide) (by decide) ?_
    refine XS.aloadN X2.here hx rfl (hb hby o725_31) rfl rfl ?_
    exact k) ?_
  obtain ⟨T3, X3, e3, st3⟩ := getF X2 hx hZ hown (host := "") (Or.inl ow37) Via.refl e2 Gp4 (g := (oF_start m 32 (oR sx) (oR pb) (oi 0) .unset .unset .unset .unset [(.ref sx)])) rfl rfl (hb hby o725_32)
  refine own_go st3 ?_
  refine own_go (A := oW p e below T3 (oF_start m 39 (oR sx) (oR pb) (oi 0) .unset .unset .unset .unset [(.int b0), (.int 0), (.ref ba)])) (fun t k => by
    refine XS.iloadN X3.here hx rfl (hb hby o725_35) rfl ?_
    refine XS.aloadN X3.here hx rfl (hb hby o725_36) rfl rfl ?_
    show oW p e below T3 (oF_start m 37 (oR sx) (oR pb) (oi 0) .unset .unset .unset .unset [(.ref pb), (.int 0), (.ref ba)]) _
    refine XS.iloadN X3.here hx rfl (hb hby o725_37) rfl ?_
    refine own_ldI X3 hx hZ e3 Gp24 ⟨by decide, by decide⟩ (v := (.int b0)) rfl (g := (oF_start m 38 (oR sx) (oR pb) (oi 0) .unset .unset .unset .unset [(.int 0), (.ref pb), (.int 0), (.ref ba)])) rfl rfl (hb hby o725_38) _ ?_
    exact k) ?_
  obtain ⟨cl4, Ar4, q4, S4, N4, H4, G4⟩ := id (Gp12)
  have hi4 : ¬ ((0 : Int32) < 0 ∨ cl4.slots.size ≤ ((0 : Int32)).toNatClampNeg) := inb_of S4 ⟨by decide, by decide⟩
  obtain ⟨T5, h5, X5, e5, W5, st5⟩ := stI X3 hx hZ e3 Ar4 (j := (0 : Int32)) hi4 (g := (oF_start m 39 (oR sx) (oR pb) (oi 0) .unset .unset .unset .unset [(.int b0), (.int 0), (.ref ba)])) rfl rfl (hb hby o725_39)
  refine own_go st5 ?_
  have V5 : Arv Z h5 ba kba .int (2 : Int32) [(.int b0), (.int (-1))] (.int 0) := Arv.set Ar4 q4 S4 N4 H4 G4 rfl W5 0 rfl (Nat.le_of_ble_eq_true rfl)
  have f5_8 : Arv Z h5 el kel (.array .double) (2 : Int32) [(.ref m0), (.ref m1)] .null := Gp8.other W5 (od_ba_el.symm)
  have f5_12 : Arv Z h5 ba kba .int (2 : Int32) [(.int b0), (.int (-1))] (.int 0) := V5
  have f5_13 : Arv Z h5 m0 km0 .double (4 : Int32) [(.double 0), (.double 0), (.double 0), (.double 0)] (.double 0) := Gp13.other W5 (od_ba_m0.symm)
  have f5_14 : Arv Z h5 m1 km1 .double (4 : Int32) [(.double 0), (.double 0), (.double 0), (.double 0)] (.double 0) := Gp14.other W5 (od_ba_m1.symm)
  have f5_18 : Arv Z h5 i0 ki0 .double (2 : Int32) [(.double 0), (.double 0)] (.double 0) := Gp18.other W5 (od_ba_i0.symm)
  have f5_19 : Arv Z h5 i1 ki1 .double (2 : Int32) [(.double 0), (.double 0)] (.double 0) := Gp19.other W5 (od_ba_i1.symm)
  have f5_21 : Arv Z h5 vl kvl .double (2 : Int32) [(.double 0), (.double 0)] (.double 0) := Gp21.other W5 (od_ba_vl.symm)
  have f5_23 : Arv Z h5 bc kbc .boolean (16 : Int32) [(.int 0), (.int 0), (.int 0), (.int 0), (.int 0), (.int 0), (.int 0), (.int 0), (.int 0), (.int 0), (.int 0), (.int 0), (.int 0), (.int 0), (.int 0), (.int 0)] (.int 0) := Gp23.other W5 (od_bc_ba)
  have N5 := Fr.snoc X5 N0 g_ba
  have Z5 : n0 ≤ h5.size := Nat.le_trans Z0 (Keep.of_wr W5).1
  have K5 : Keep h0 h5 [ba, bc, el, m0, m1, i0, i1, vl] := (Keep.refl h0 [ba, bc, el, m0, m1, i0, i1, vl]).wr W5 (Or.inl (List.mem_of_getElem? (i := 0) rfl))
  refine own_go (A := oW p e below T5 (oF_start m 41 (oR sx) (oR pb) (oi 0) .unset .unset .unset .unset [(.ref sx)])) (fun t k => by
    refine XS.aloadN X5.here hx rfl (hb hby o725_40) rfl rfl ?_
    exact k) ?_
  obtain ⟨T6, X6, e6, st6⟩ := getF X5 hx hZ hown (host := "") (Or.inl ow23) Via.refl e5 (Gp22.keep K5 nn_sx) (g := (oF_start m 41 (oR sx) (oR pb) (oi 0) .unset .unset .unset .unset [(.ref sx)])) rfl rfl (hb hby o725_41)
  refine own_go st6 ?_
  refine own_go (A := oW p e below T6 (oF_start m 45 (oR sx) (oR pb) (oi 0) .unset .unset .unset .unset [(.ref sx), (.ref bc)])) (fun t k => by
    refine XS.aloadN X6.here hx rfl (hb hby o725_44) rfl rfl ?_
    exact k) ?_
  obtain ⟨T7, X7, e7, st7⟩ := getF X6 hx hZ hown (host := "") (Or.inl ow37) Via.refl e6 (Gp4.keep K5 nn_sx) (g := (oF_start m 45 (oR sx) (oR pb) (oi 0) .unset .unset .unset .unset [(.ref sx), (.ref bc)])) rfl rfl (hb hby o725_45)
  refine own_go st7 ?_
  refine own_go (A := oW p e below T7 (oF_start m 51 (oR sx) (oR pb) (oi 0) .unset .unset .unset .unset [(.int 1), (.int b0), (.ref bc)])) (fun t k => by
    refine XS.iloadN X7.here hx rfl (hb hby o725_48) rfl ?_
    refine own_ldI X7 hx hZ e7 f5_12 ⟨by decide, by decide⟩ (v := (.int b0)) rfl (g := (oF_start m 49 (oR sx) (oR pb) (oi 0) .unset .unset .unset .unset [(.int 0), (.ref ba), (.ref bc)])) rfl rfl (hb hby o725_49) _ ?_
    refine XS.iconst X7.here hx rfl (hb hby o725_50) ?_
    exact k) ?_
  obtain ⟨cl8, Ar8, q8, S8, N8, H8, G8⟩ := id (f5_23)
  have hi8 : ¬ (b0 < 0 ∨ cl8.slots.size ≤ (b0).toNatClampNeg) := inb_of S8 hb0
  obtain ⟨T9, h9, X9, e9, W9, st9⟩ := stZ X7 hx hZ e7 Ar8 (j := b0) hi8 (g := (oF_start m 51 (oR sx) (oR pb) (oi 0) .unset .unset .unset .unset [(.int 1), (.int b0), (.ref bc)])) rfl rfl (hb hby o725_51)
  refine own_go st9 ?_
  have V9 : Arv Z h9 bc kbc .boolean (16 : Int32) (([(.int 0), (.int 0), (.int 0), (.int 0), (.int 0), (.int 0), (.int 0), (.int 0), (.int 0), (.int 0), (.int 0), (.int 0), (.int 0), (.int 0), (.int 0), (.int 0)] : List Value).set b0.toNatClampNeg (.int (nar .boolean (1 : Int32)))) (.int 0) := Arv.set Ar8 q8 S8 N8 H8 G8 (fits_nar_bool _) W9 b0.toNatClampNeg rfl (show _ < 16 from own_lt16 hb0)
  have f9_8 : Arv Z h9 el kel (.array .double) (2 : Int32) [(.ref m0), (.ref m1)] .null := f5_8.other W9 (od_bc_el.symm)
  have f9_12 : Arv Z h9 ba kba .int (2 : Int32) [(.int b0), (.int (-1))] (.int 0) := f5_12.other W9 (od_bc_ba.symm)
  have f9_13 : Arv Z h9 m0 km0 .double (4 : Int32) [(.double 0), (.double 0), (.double 0), (.double 0)] (.double 0) := f5_13.other W9 (od_bc_m0.symm)
  have f9_14 : Arv Z h9 m1 km1 .double (4 : Int32) [(.double 0), (.double 0), (.double 0), (.double 0)] (.double 0) := f5_14.other W9 (od_bc_m1.symm)
  have f9_18 : Arv Z h9 i0 ki0 .double (2 : Int32) [(.double 0), (.double 0)] (.double 0) := f5_18.other W9 (od_bc_i0.symm)
  have f9_19 : Arv Z h9 i1 ki1 .double (2 : Int32) [(.double 0), (.double 0)] (.double 0) := f5_19.other W9 (od_bc_i1.symm)
  have f9_21 : Arv Z h9 vl kvl .double (2 : Int32) [(.double 0), (.double 0)] (.double 0) := f5_21.other W9 (od_bc_vl.symm)
  have f9_23 : Arv Z h9 bc kbc .boolean (16 : Int32) (([(.int 0), (.int 0), (.int 0), (.int 0), (.int 0), (.int 0), (.int 0), (.int 0), (.int 0), (.int 0), (.int 0), (.int 0), (.int 0), (.int 0), (.int 0), (.int 0)] : List Value).set b0.toNatClampNeg (.int (nar .boolean (1 : Int32)))) (.int 0) := V9
  have N9 := Fr.snoc X9 N5 g_bc
  have Z9 : n0 ≤ h9.size := Nat.le_trans Z5 (Keep.of_wr W9).1
  have K9 : Keep h0 h9 [ba, bc, el, m0, m1, i0, i1, vl] := K5.wr W9 (Or.inl (List.mem_of_getElem? (i := 1) rfl))
  refine own_go (A := oW p e below T9 (oF_start m 4 (oR sx) (oR pb) (oi 1) .unset .unset .unset .unset [(.ref sx), (.int 1)])) (fun t k => by
    refine XS.iinc X9.here hx rfl (hb hby o725_52) rfl (l' := #[(oR sx), (oR pb), (oi 1), .unset, .unset, .unset, .unset]) rfl ?_
    show oW p e below T9 (oF_start m 55 (oR sx) (oR pb) (oi 1) .unset .unset .unset .unset []) _
    refine XS.goto X9.here hx rfl (pc0 := 55) (pc' := 2) rfl (hb hby o725_55) (by decide) (by decide) ?_
    refine XS.iloadN X9.here hx rfl (hb hby o725_2) rfl ?_
    refine XS.aloadN X9.here hx rfl (hb hby o725_3) rfl rfl ?_
    exact k) ?_
  obtain ⟨T10, X10, e10, st10⟩ := getF X9 hx hZ hown (host := "") (Or.inl ow25) Via.refl e9 (Gp1.keep K9 nn_sx) (g := (oF_start m 4 (oR sx) (oR pb) (oi 1) .unset .unset .unset .unset [(.ref sx), (.int 1)])) rfl rfl (hb hby o725_4)
  refine own_go st10 ?_
  refine own_go (A := oW p e below T10 (oF_start m 11 (oR sx) (oR pb) (oi 1) .unset .unset .unset .unset [(.ref sx)])) (fun t k => by
    refine XS.icmpNo X10.here hx rfl (hb hby o725_7) rfl (tlt (by decide : (1 : Int32) < (2 : Int32))).2.1 ?_
    show oW p e below T10 (oF_start m 10 (oR sx) (oR pb) (oi 1) .unset .unset .unset .unset []) _
    refine XS.aloadN X10.here hx rfl (hb hby o725_10) rfl rfl ?_
    exact k) ?_
  obtain ⟨T11, X11, e11, st11⟩ := getF X10 hx hZ hown (host := "") (Or.inl ow37) Via.refl e10 (Gp4.keep K9 nn_sx) (g := (oF_start m 11 (oR sx) (oR pb) (oi 1) .unset .unset .unset .unset [(.ref sx)])) rfl rfl (hb hby o725_11)
  refine own_go st11 ?_
  refine own_go (A := oW p e below T11 (oF_start m 32 (oR sx) (oR pb) (oi 1) .unset .unset .unset .unset [(.ref sx)])) (fun t k => by
    refine XS.iloadN X11.here hx rfl (hb hby o725_14) rfl ?_
    refine own_ldI X11 hx hZ e11 f9_12 ⟨by decide, by decide⟩ (v := (.int (-1))) rfl (g := (oF_start m 15 (oR sx) (oR pb) (oi 1) .unset .unset .unset .unset [(.int 1), (.ref ba)])) rfl rfl (hb hby o725_15) _ ?_
    refine XS.ifYes X11.here hx rfl (pc0 := 16) (pc' := 31) rfl (hb hby o725_16) rfl ((if0 _ _).trans (tlt (by decide : (-1 : Int32) < (0 : Int32))).1) (by decide) (by decide) ?_
    show oW p e below T11 (oF_start m 31 (oR sx) (oR pb) (oi 1) .unset .unset .unset .unset []) _
    refine XS.aloadN X11.here hx rfl (hb hby o725_31) rfl rfl ?_
    exact k) ?_
  obtain ⟨T12, X12, e12, st12⟩ := getF X11 hx hZ hown (host := "") (Or.inl ow37) Via.refl e11 (Gp4.keep K9 nn_sx) (g := (oF_start m 32 (oR sx) (oR pb) (oi 1) .unset .unset .unset .unset [(.ref sx)])) rfl rfl (hb hby o725_32)
  refine own_go st12 ?_
  refine own_go (A := oW p e below T12 (oF_start m 39 (oR sx) (oR pb) (oi 1) .unset .unset .unset .unset [(.int b1), (.int 1), (.ref ba)])) (fun t k => by
    refine XS.iloadN X12.here hx rfl (hb hby o725_35) rfl ?_
    refine XS.aloadN X12.here hx rfl (hb hby o725_36) rfl rfl ?_
    refine XS.iloadN X12.here hx rfl (hb hby o725_37) rfl ?_
    show oW p e below T12 (oF_start m 38 (oR sx) (oR pb) (oi 1) .unset .unset .unset .unset [(.int 1), (.ref pb), (.int 1), (.ref ba)]) _
    refine own_ldI X12 hx hZ e12 (Gp24.keep K9 nn_pb) ⟨by decide, by decide⟩ (v := (.int b1)) rfl (g := (oF_start m 38 (oR sx) (oR pb) (oi 1) .unset .unset .unset .unset [(.int 1), (.ref pb), (.int 1), (.ref ba)])) rfl rfl (hb hby o725_38) _ ?_
    exact k) ?_
  obtain ⟨cl13, Ar13, q13, S13, N13, H13, G13⟩ := id (f9_12)
  have hi13 : ¬ ((1 : Int32) < 0 ∨ cl13.slots.size ≤ ((1 : Int32)).toNatClampNeg) := inb_of S13 ⟨by decide, by decide⟩
  obtain ⟨T14, h14, X14, e14, W14, st14⟩ := stI X12 hx hZ e12 Ar13 (j := (1 : Int32)) hi13 (g := (oF_start m 39 (oR sx) (oR pb) (oi 1) .unset .unset .unset .unset [(.int b1), (.int 1), (.ref ba)])) rfl rfl (hb hby o725_39)
  refine own_go st14 ?_
  have V14 : Arv Z h14 ba kba .int (2 : Int32) [(.int b0), (.int b1)] (.int 0) := Arv.set Ar13 q13 S13 N13 H13 G13 rfl W14 1 rfl (Nat.le_of_ble_eq_true rfl)
  have f14_8 : Arv Z h14 el kel (.array .double) (2 : Int32) [(.ref m0), (.ref m1)] .null := f9_8.other W14 (od_ba_el.symm)
  have f14_12 : Arv Z h14 ba kba .int (2 : Int32) [(.int b0), (.int b1)] (.int 0) := V14
  have f14_13 : Arv Z h14 m0 km0 .double (4 : Int32) [(.double 0), (.double 0), (.double 0), (.double 0)] (.double 0) := f9_13.other W14 (od_ba_m0.symm)
  have f14_14 : Arv Z h14 m1 km1 .double (4 : Int32) [(.double 0), (.double 0), (.double 0), (.double 0)] (.double 0) := f9_14.other W14 (od_ba_m1.symm)
  have f14_18 : Arv Z h14 i0 ki0 .double (2 : Int32) [(.double 0), (.double 0)] (.double 0) := f9_18.other W14 (od_ba_i0.symm)
  have f14_19 : Arv Z h14 i1 ki1 .double (2 : Int32) [(.double 0), (.double 0)] (.double 0) := f9_19.other W14 (od_ba_i1.symm)
  have f14_21 : Arv Z h14 vl kvl .double (2 : Int32) [(.double 0), (.double 0)] (.double 0) := f9_21.other W14 (od_ba_vl.symm)
  have f14_23 : Arv Z h14 bc kbc .boolean (16 : Int32) (([(.int 0), (.int 0), (.int 0), (.int 0), (.int 0), (.int 0), (.int 0), (.int 0), (.int 0), (.int 0), (.int 0), (.int 0), (.int 0), (.int 0), (.int 0), (.int 0)] : List Value).set b0.toNatClampNeg (.int (nar .boolean (1 : Int32)))) (.int 0) := f9_23.other W14 (od_bc_ba)
  have N14 := Fr.snoc X14 N9 g_ba
  have Z14 : n0 ≤ h14.size := Nat.le_trans Z9 (Keep.of_wr W14).1
  have K14 : Keep h0 h14 [ba, bc, el, m0, m1, i0, i1, vl] := K9.wr W14 (Or.inl (List.mem_of_getElem? (i := 0) rfl))
  refine own_go (A := oW p e below T14 (oF_start m 41 (oR sx) (oR pb) (oi 1) .unset .unset .unset .unset [(.ref sx)])) (fun t k => by
    refine XS.aloadN X14.here hx rfl (hb hby o725_40) rfl rfl ?_
    exact k) ?_
  obtain ⟨T15, X15, e15, st15⟩ := getF X14 hx hZ hown (host := "") (Or.inl ow23) Via.refl e14 (Gp22.keep K14 nn_sx) (g := (oF_start m 41 (oR sx) (oR pb) (oi 1) .unset .unset .unset .unset [(.ref sx)])) rfl rfl (hb hby o725_41)
  refine own_go st15 ?_
  refine own_go (A := oW p e below T15 (oF_start m 45 (oR sx) (oR pb) (oi 1) .unset .unset .unset .unset [(.ref sx), (.ref bc)])) (fun t k => by
    refine XS.aloadN X15.here hx rfl (hb hby o725_44) rfl rfl ?_
    exact k) ?_
  obtain ⟨T16, X16, e16, st16⟩ := getF X15 hx hZ hown (host := "") (Or.inl ow37) Via.refl e15 (Gp4.keep K14 nn_sx) (g := (oF_start m 45 (oR sx) (oR pb) (oi 1) .unset .unset .unset .unset [(.ref sx), (.ref bc)])) rfl rfl (hb hby o725_45)
  refine own_go st16 ?_
  refine own_go (A := oW p e below T16 (oF_start m 51 (oR sx) (oR pb) (oi 1) .unset .unset .unset .unset [(.int 1), (.int b1), (.ref bc)])) (fun t k => by
    refine XS.iloadN X16.here hx rfl (hb hby o725_48) rfl ?_
    show oW p e below T16 (oF_start m 49 (oR sx) (oR pb) (oi 1) .unset .unset .unset .unset [(.int 1), (.ref ba), (.ref bc)]) _
    refine own_ldI X16 hx hZ e16 f14_12 ⟨by decide, by decide⟩ (v := (.int b1)) rfl (g := (oF_start m 49 (oR sx) (oR pb) (oi 1) .unset .unset .unset .unset [(.int 1), (.ref ba), (.ref bc)])) rfl rfl (hb hby o725_49) _ ?_
    refine XS.iconst X16.here hx rfl (hb hby o725_50) ?_
    exact k) ?_
  obtain ⟨cl17, Ar17, q17, S17, N17, H17, G17⟩ := id (f14_23)
  have hi17 : ¬ (b1 < 0 ∨ cl17.slots.size ≤ (b1).toNatClampNeg) := inb_of S17 hb1
  obtain ⟨T18, h18, X18, e18, W18, st18⟩ := stZ X16 hx hZ e16 Ar17 (j := b1) hi17 (g := (oF_start m 51 (oR sx) (oR pb) (oi 1) .unset .unset .unset .unset [(.int 1), (.int b1), (.ref bc)])) rfl rfl (hb hby o725_51)
  refine own_go st18 ?_
  have V18 : Arv Z h18 bc kbc .boolean (16 : Int32) (((([(.int 0), (.int 0), (.int 0), (.int 0), (.int 0), (.int 0), (.int 0), (.int 0), (.int 0), (.int 0), (.int 0), (.int 0), (.int 0), (.int 0), (.int 0), (.int 0)] : List Value).set b0.toNatClampNeg (.int (nar .boolean (1 : Int32)))) : List Value).set b1.toNatClampNeg (.int (nar .boolean (1 : Int32)))) (.int 0) := Arv.set Ar17 q17 S17 N17 H17 G17 (fits_nar_bool _) W18 b1.toNatClampNeg rfl (by rw [List.length_set]; exact own_lt16 hb1)
  have f18_8 : Arv Z h18 el kel (.array .double) (2 : Int32) [(.ref m0), (.ref m1)] .null := f14_8.other W18 (od_bc_el.symm)
  have f18_12 : Arv Z h18 ba kba .int (2 : Int32) [(.int b0), (.int b1)] (.int 0) := f14_12.other W18 (od_bc_ba.symm)
  have f18_13 : Arv Z h18 m0 km0 .double (4 : Int32) [(.double 0), (.double 0), (.double 0), (.double 0)] (.double 0) := f14_13.other W18 (od_bc_m0.symm)
  have f18_14 : Arv Z h18 m1 km1 .double (4 : Int32) [(.double 0), (.double 0), (.double 0), (.double 0)] (.double 0) := f14_14.other W18 (od_bc_m1.symm)
  have f18_18 : Arv Z h18 i0 ki0 .double (2 : Int32) [(.double 0), (.double 0)] (.double 0) := f14_18.other W18 (od_bc_i0.symm)
  have f18_19 : Arv Z h18 i1 ki1 .double (2 : Int32) [(.double 0), (.double 0)] (.double 0) := f14_19.other W18 (od_bc_i1.symm)
  have f18_21 : Arv Z h18 vl kvl .double (2 : Int32) [(.double 0), (.double 0)] (.double 0) := f14_21.other W18 (od_bc_vl.symm)
  have f18_23 : Arv Z h18 bc kbc .boolean (16 : Int32) (((([(.int 0), (.int 0), (.int 0), (.int 0), (.int 0), (.int 0), (.int 0), (.int 0), (.int 0), (.int 0), (.int 0), (.int 0), (.int 0), (.int 0), (.int 0), (.int 0)] : List Value).set b0.toNatClampNeg (.int (nar .boolean (1 : Int32)))) : List Value).set b1.toNatClampNeg (.int (nar .boolean (1 : Int32)))) (.int 0) := V18
  have N18 := Fr.snoc X18 N14 g_bc
  have Z18 : n0 ≤ h18.size := Nat.le_trans Z14 (Keep.of_wr W18).1
  have K18 : Keep h0 h18 [ba, bc, el, m0, m1, i0, i1, vl] := K14.wr W18 (Or.inl (List.mem_of_getElem? (i := 1) rfl))
  refine own_go (A := oW p e below T18 (oF_start m 4 (oR sx) (oR pb) (oi 2) .unset .unset .unset .unset [(.ref sx), (.int 2)])) (fun t k => by
    refine XS.iinc X18.here hx rfl (hb hby o725_52) rfl (l' := #[(oR sx), (oR pb), (oi 2), .unset, .unset, .unset, .unset]) rfl ?_
    refine XS.goto X18.here hx rfl (pc0 := 55) (pc' := 2) rfl (hb hby o725_55) (by decide) (by decide) ?_
    show oW p e below T18 (oF_start m 2 (oR sx) (oR pb) (oi 2) .unset .unset .unset .unset []) _
    refine XS.iloadN X18.here hx rfl (hb hby o725_2) rfl ?_
    refine XS.aloadN X18.here hx rfl (hb hby o725_3) rfl rfl ?_
    exact k) ?_
  obtain ⟨T19, X19, e19, st19⟩ := getF X18 hx hZ hown (host := "") (Or.inl ow25) Via.refl e18 (Gp1.keep K18 nn_sx) (g := (oF_start m 4 (oR sx) (oR pb) (oi 2) .unset .unset .unset .unset [(.ref sx), (.int 2)])) rfl rfl (hb hby o725_4)
  refine own_go st19 ?_
  refine own_go (A := oW p e below T19 (oF_start m 59 (oR sx) (oR pb) (oi 2) .unset .unset .unset .unset [(.ref sx)])) (fun t k => by
    refine XS.icmpYes X19.here hx rfl (pc0 := 7) (pc' := 58) rfl (hb hby o725_7) rfl (flt (by decide : ¬ ((2 : Int32) < (2 : Int32)))).2.1 (by decide) (by decide) ?_
    refine XS.aloadN X19.here hx rfl (hb hby o725_58) rfl rfl ?_
    exact k) ?_
  obtain ⟨cq20, q20a, q20b⟩ := Exa.cell (Gp0.keep K18)
  obtain ⟨_, _, ⟨T20, L20, k20, n20⟩, -, X20, ⟨Lc20, hQ20, l20, y20, z20⟩, st20⟩ := own_privBack X19 hx (y := (⟨"com/example/composure/composure/select/Simplex", "invert", "()Z"⟩ : MethodName)) (z := (⟨"com/example/composure/composure/select/Simplex", "add", "([DD)I"⟩ : MethodName)) (w := (⟨"com/example/composure/composure/select/Simplex", "add", "([DD)I"⟩ : MethodName)) hown (mvT hZ ow66) (mvT hZ ow67) (mvT hZ ow57) rfl (Cond.privateMethod_at (mvP hZ ow68 (args := #[]))) (mvT hZ ow69) (by decide) (backOf (W := 0) (own_rm_inv l Z a0 hw [] sx co y0 y1 cs bc li ba iv i0 i1 vl el m0 m1 pb kco ky0 ky1 kcs kbc kli kba kiv ki0 ki1 kvl kel km0 km1 kpb ux vx wx uy vy wy dl dm mt00 mt01 mt10 mt11 q00 q01 q10 q11 b0 b1 vco h18 n0 Z18 hnd hPx hPy g_el g_m0 g_m1 g_i0 g_i1 g_vl ok0 ok1 Oel hsel hb0 hb1 hy0 hy1 (Gp0.keep K18) (Gp1.keep K18 nn_sx) (Gp2.keep K18 nn_sx) (Gp3.keep K18 nn_sx) (Gp4.keep K18 nn_sx) (Gp5.keep K18 nn_sx) (Gp6.keep K18 nn_sx) (Gp7.keep K18 nn_sx) f18_8 (Gp9.keep K18 nn_co) (Gp10.keep K18 nn_y0) (Gp11.keep K18 nn_y1) f18_12 f18_13 f18_14 (Gp15.keep K18) (Gp16.keep K18) (Gp17.keep K18 nn_iv) f18_18 f18_19 (Gp20.keep K18 nn_li) f18_21) hZ ow69 ow7 (by decide) (by decide)) (g := (oF_start m 59 (oR sx) (oR pb) (oi 2) .unset .unset .unset .unset [(.ref sx)])) rfl (by rw [hml]; rfl) (Steps.refl _) (a := sx) (by rw [e19]; exact q20a) q20b (argsL := []) (rest := []) (lenOf own_pd_2829Z rfl) rfl (by show 2 * 0 + _ ≤ _; exact Nat.le_of_eq rfl) (hb hby o725_59) (fun _ _ => ⟨rfl, e19, (by decide : 0 + 0 ≤ _), (by decide : 0 + 0 ≤ _)⟩)
  dsimp only [Pt.U, Pt.locs, Pt.cells, Pt.slots] at X20 l20 y20 z20 st20 hQ20
  subst l20 y20 z20
  obtain ⟨rfl, N20q, K20q, p20_0⟩ := hQ20
  have N20 := Fr.app N18 N20q
  have f20_12 : Arv Z T20.heap ba kba .int (2 : Int32) [(.int b0), (.int b1)] (.int 0) := f18_12.keep K20q (ninS od_ba_el (ninS od_ba_m0 (ninS od_ba_m1 (ninS od_ba_i0 (ninS od_ba_i1 (ninS od_ba_vl nin0))))))
  have f20_23 : Arv Z T20.heap bc kbc .boolean (16 : Int32) (((([(.int 0), (.int 0), (.int 0), (.int 0), (.int 0), (.int 0), (.int 0), (.int 0), (.int 0), (.int 0), (.int 0), (.int 0), (.int 0), (.int 0), (.int 0), (.int 0)] : List Value).set b0.toNatClampNeg (.int (nar .boolean (1 : Int32)))) : List Value).set b1.toNatClampNeg (.int (nar .boolean (1 : Int32)))) (.int 0) := f18_23.keep K20q (ninS od_bc_el (ninS od_bc_m0 (ninS od_bc_m1 (ninS od_bc_i0 (ninS od_bc_i1 (ninS od_bc_vl nin0))))))
  have Z20 : n0 ≤ T20.heap.size := Nat.le_trans Z18 K20q.1
  have K20 : Keep h0 T20.heap [ba, bc, el, m0, m1, i0, i1, vl] := K18.trans K20q (allS (Or.inl (List.mem_of_getElem? (i := 2) rfl)) (allS (Or.inl (List.mem_of_getElem? (i := 3) rfl)) (allS (Or.inl (List.mem_of_getElem? (i := 4) rfl)) (allS (Or.inl (List.mem_of_getElem? (i := 5) rfl)) (allS (Or.inl (List.mem_of_getElem? (i := 6) rfl)) (allS (Or.inl (List.mem_of_getElem? (i := 7) rfl)) all0))))))
  refine own_go (fun _ k => st20.trans k) ?_
  refine own_go (A := oW p e below T20 (oF_start m 68 (oR sx) (oR pb) (oi 2) .unset .unset .unset .unset [(.ref sx)])) (fun t k => by
    refine XS.ifYes X20.here hx rfl (pc0 := 62) (pc' := 67) rfl (hb hby o725_62) rfl ((if0 _ _).trans (feq (by decide : ¬ ((1 : Int32) = (0 : Int32)))).2) (by decide) (by decide) ?_
    refine XS.aloadN X20.here hx rfl (hb hby o725_67) rfl rfl ?_
    exact k) ?_
  obtain ⟨T21, X21, e21, st21⟩ := getF X20 hx hZ hown (host := "") (Or.inl ow42) Via.refl rfl (Gp7.keep K20 nn_sx) (g := (oF_start m 68 (oR sx) (oR pb) (oi 2) .unset .unset .unset .unset [(.ref sx)])) rfl rfl (hb hby o725_68)
  refine own_go st21 ?_
  refine own_go (A := oW p e below T21 (oF_start m 108 (oR sx) (oR pb) (oR vl) (oi 2) (oi 2) (od (own_tot q10 q11 dl dm)) .second [(.int 1)])) (fun t k => by
    refine XS.astoreN X21.here hx rfl (hb hby o725_71) rfl rfl (l' := #[(oR sx), (oR pb), (oR vl), .unset, .unset, .unset, .unset]) rfl ?_
    refine XS.aloadN X21.here hx rfl (hb hby o725_72) rfl rfl ?_
    show oW p e below T21 (oF_start m 73 (oR sx) (oR pb) (oR vl) .unset .unset .unset .unset [(.ref vl)]) _
    refine own_len2 X21 hx hZ e21 p20_0 (g := (oF_start m 73 (oR sx) (oR pb) (oR vl) .unset .unset .unset .unset [(.ref vl)])) rfl rfl (hb hby o725_73) _ ?_
    refine XS.istoreN X21.here hx rfl (hb hby o725_74) rfl (l' := #[(oR sx), (oR pb), (oR vl), (oi 2), .unset, .unset, .unset]) rfl ?_
    refine XS.iconst X21.here hx rfl (hb hby o725_75) ?_
    refine XS.istore X21.here hx rfl (hb hby o725_76) rfl (l' := #[(oR sx), (oR pb), (oR vl), (oi 2), (oi 0), .unset, .unset]) rfl ?_
    show oW p e below T21 (oF_start m 78 (oR sx) (oR pb) (oR vl) (oi 2) (oi 0) .unset .unset []) _
    refine XS.iload X21.here hx rfl (hb hby o725_78) rfl ?_
    refine XS.iloadN X21.here hx rfl (hb hby o725_80) rfl ?_
    refine XS.icmpNo X21.here hx rfl (hb hby o725_81) rfl (tlt (by decide : (0 : Int32) < (2 : Int32))).2.1 ?_
    refine XS.aloadN X21.here hx rfl (hb hby o725_84) rfl rfl ?_
    show oW p e below T21 (oF_start m 85 (oR sx) (oR pb) (oR vl) (oi 2) (oi 0) .unset .unset [(.ref vl)]) _
    refine XS.iload X21.here hx rfl (hb hby o725_85) rfl ?_
    refine own_ldD X21 hx hZ e21 p20_0 ⟨by decide, by decide⟩ (v := (.double (own_tot q00 q01 dl dm))) rfl (g := (oF_start m 87 (oR sx) (oR pb) (oR vl) (oi 2) (oi 0) .unset .unset [(.int 0), (.ref vl)])) rfl rfl (hb hby o725_87) _ ?_
    refine XS.dstore X21.here hx rfl (hb hby o725_88) rfl (l' := #[(oR sx), (oR pb), (oR vl), (oi 2), (oi 0), (od (own_tot q00 q01 dl dm)), .second]) rfl ?_
    refine XS.dload X21.here hx rfl (hb hby o725_90) rfl ?_
    show oW p e below T21 (oF_start m 92 (oR sx) (oR pb) (oR vl) (oi 2) (oi 0) (od (own_tot q00 q01 dl dm)) .second [(.double (own_tot q00 q01 dl dm))]) _
    refine X21.ldc2DoubleC hx hown (mvT hZ ow89) (g := (oF_start m 92 (oR sx) (oR pb) (oR vl) (oi 2) (oi 0) (od (own_tot q00 q01 dl dm)) .second [(.double (own_tot q00 q01 dl dm))])) rfl (hb hby o725_92) _ ?_
    refine XS.dcmpS X21.here hx rfl (hb hby o725_95) rfl rfl ?_
    refine XS.ifYes X21.here hx rfl (pc0 := 96) (pc' := 101) rfl (hb hby o725_96) rfl ((if0 _ _).trans (flt ge0).2.1) (by decide) (by decide) ?_
    refine XS.iinc X21.here hx rfl (hb hby o725_101) rfl (l' := #[(oR sx), (oR pb), (oR vl), (oi 2), (oi 1), (od (own_tot q00 q01 dl dm)), .second]) rfl ?_
    show oW p e below T21 (oF_start m 104 (oR sx) (oR pb) (oR vl) (oi 2) (oi 1) (od (own_tot q00 q01 dl dm)) .second []) _
    refine XS.goto X21.here hx rfl (pc0 := 104) (pc' := 78) rfl (hb hby o725_104) (by decide) (by decide) ?_
    refine XS.iload X21.here hx rfl (hb hby o725_78) rfl ?_
    refine XS.iloadN X21.here hx rfl (hb hby o725_80) rfl ?_
    refine XS.icmpNo X21.here hx rfl (hb hby o725_81) rfl (tlt (by decide : (1 : Int32) < (2 : Int32))).2.1 ?_
    show oW p e below T21 (oF_start m 84 (oR sx) (oR pb) (oR vl) (oi 2) (oi 1) (od (own_tot q00 q01 dl dm)) .second []) _
    refine XS.aloadN X21.here hx rfl (hb hby o725_84) rfl rfl ?_
    refine XS.iload X21.here hx rfl (hb hby o725_85) rfl ?_
    refine own_ldD X21 hx hZ e21 p20_0 ⟨by decide, by decide⟩ (v := (.double (own_tot q10 q11 dl dm))) rfl (g := (oF_start m 87 (oR sx) (oR pb) (oR vl) (oi 2) (oi 1) (od (own_tot q00 q01 dl dm)) .second [(.int 1), (.ref vl)])) rfl rfl (hb hby o725_87) _ ?_
    refine XS.dstore X21.here hx rfl (hb hby o725_88) rfl (l' := #[(oR sx), (oR pb), (oR vl), (oi 2), (oi 1), (od (own_tot q10 q11 dl dm)), .second]) rfl ?_
    show oW p e below T21 (oF_start m 90 (oR sx) (oR pb) (oR vl) (oi 2) (oi 1) (od (own_tot q10 q11 dl dm)) .second []) _
    refine XS.dload X21.here hx rfl (hb hby o725_90) rfl ?_
    refine X21.ldc2DoubleC hx hown (mvT hZ ow89) (g := (oF_start m 92 (oR sx) (oR pb) (oR vl) (oi 2) (oi 1) (od (own_tot q10 q11 dl dm)) .second [(.double (own_tot q10 q11 dl dm))])) rfl (hb hby o725_92) _ ?_
    refine XS.dcmpS X21.here hx rfl (hb hby o725_95) rfl rfl ?_
    refine XS.ifYes X21.here hx rfl (pc0 := 96) (pc' := 101) rfl (hb hby o725_96) rfl ((if0 _ _).trans (flt ge1).2.1) (by decide) (by decide) ?_
    show oW p e below T21 (oF_start m 101 (oR sx) (oR pb) (oR vl) (oi 2) (oi 1) (od (own_tot q10 q11 dl dm)) .second []) _
    refine XS.iinc X21.here hx rfl (hb hby o725_101) rfl (l' := #[(oR sx), (oR pb), (oR vl), (oi 2), (oi 2), (od (own_tot q10 q11 dl dm)), .second]) rfl ?_
    refine XS.goto X21.here hx rfl (pc0 := 104) (pc' := 78) rfl (hb hby o725_104) (by decide) (by decide) ?_
    refine XS.iload X21.here hx rfl (hb hby o725_78) rfl ?_
    refine XS.iloadN X21.here hx rfl (hb hby o725_80) rfl ?_
    show oW p e below T21 (oF_start m 81 (oR sx) (oR pb) (oR vl) (oi 2) (oi 2) (od (own_tot q10 q11 dl dm)) .second [(.int 2), (.int 2)]) _
    refine XS.icmpYes X21.here hx rfl (pc0 := 81) (pc' := 107) rfl (hb hby o725_81) rfl (flt (by decide : ¬ ((2 : Int32) < (2 : Int32)))).2.1 (by decide) (by decide) ?_
    refine XS.iconst X21.here hx rfl (hb hby o725_107) ?_
    exact k) ?_
  obtain ⟨fs, hr, hrun, hended, hW, hsame⟩ := X21.leave (v := some (.int (nar .boolean (1 : Int32)))) (fun h => by rw [Bd.returns] at h; cases h)
  refine ⟨_, _, retN X21 hx (t := .boolean) Bd.returns (by simp) (hb hby o725_108) hr, hPf _ _ ⟨hrun, hended, _, _, rfl, ?_, ⟨_, rfl⟩, hW, hsame.mono (by decide) (by decide)⟩⟩
  show own_Q_start Z sx pb co y0 y1 cs bc li ba iv i0 i1 vl el m0 m1 kco ky0 ky1 kcs kbc kli kba kiv ki0 ki1 kvl kel km0 km1 kpb ux vx wx uy vy wy dl dm mt00 mt01 mt10 mt11 q00 q01 q10 q11 b0 b1 vco h0 n0 _ T21.heap _
  rw [e21]
  exact ⟨rfl, N20, K20, f20_12, p20_0⟩
abbrev oF_value (m : MethodId) (pc : Nat) (a0 a1 a2 a3 : Slot) (S : List Value) : JFrame := mkF m pc #[a0, a1, a2, a3] S
theorem o727_0 : decode prog_72_method_7_code 0 = .ok (.dconst 0, 1) := by decide +kernel
theorem o727_1 : decode prog_72_method_7_code 1 = .ok (.dstore_n 1, 1) := by decide +kernel
theorem o727_2 : decode prog_72_method_7_code 2 = .ok (.iconst 0, 1) := by decide +kernel
theorem o727_3 : decode prog_72_method_7_code 3 = .ok (.istore_n 3, 1) := by decide +kernel
theorem o727_4 : decode prog_72_method_7_code 4 = .ok (.iload_n 3, 1) := by decide +kernel
theorem o727_5 : decode prog_72_method_7_code 5 = .ok (.aload_n 0, 1) := by decide +kernel
theorem o727_6 : decode prog_72_method_7_code 6 = .ok (.getfield 25, 3) := by decide +kernel
theorem o727_9 : decode prog_72_method_7_code 9 = .ok (.if_icmp .ge 30, 3) := by decide +kernel
theorem o727_12 : decode prog_72_method_7_code 12 = .ok (.dload_n 1, 1) := by decide +kernel
theorem o727_13 : decode prog_72_method_7_code 13 = .ok (.aload_n 0, 1) := by decide +kernel
theorem o727_14 : decode prog_72_method_7_code 14 = .ok (.getfield 15, 3) := by decide +kernel
theorem o727_17 : decode prog_72_method_7_code 17 = .ok (.aload_n 0, 1) := by decide +kernel
theorem o727_18 : decode prog_72_method_7_code 18 = .ok (.getfield 36, 3) := by decide +kernel
theorem o727_21 : decode prog_72_method_7_code 21 = .ok (.iload_n 3, 1) := by decide +kernel
theorem o727_22 : decode prog_72_method_7_code 22 = .ok (.iaload, 1) := by decide +kernel
theorem o727_23 : decode prog_72_method_7_code 23 = .ok (.daload, 1) := by decide +kernel
theorem o727_24 : decode prog_72_method_7_code 24 = .ok (.aload_n 0, 1) := by decide +kernel
theorem o727_25 : decode prog_72_method_7_code 25 = .ok (.getfield 44, 3) := by decide +kernel
theorem o727_28 : decode prog_72_method_7_code 28 = .ok (.iload_n 3, 1) := by decide +kernel
theorem o727_29 : decode prog_72_method_7_code 29 = .ok (.daload, 1) := by decide +kernel
theorem o727_30 : decode prog_72_method_7_code 30 = .ok (.dmul, 1) := by decide +kernel
theorem o727_31 : decode prog_72_method_7_code 31 = .ok (.dadd, 1) := by decide +kernel
theorem o727_32 : decode prog_72_method_7_code 32 = .ok (.dstore_n 1, 1) := by decide +kernel
theorem o727_33 : decode prog_72_method_7_code 33 = .ok (.iinc 3 1, 3) := by decide +kernel
theorem o727_36 : decode prog_72_method_7_code 36 = .ok (.goto (-32), 3) := by decide +kernel
theorem o727_39 : decode prog_72_method_7_code 39 = .ok (.dload_n 1, 1) := by decide +kernel
theorem o727_40 : decode prog_72_method_7_code 40 = .ok (.dreturn, 1) := by decide +kernel
theorem own_ef_value (m : MethodId) (x0 : Addr) : entryFrame m #[(.ref x0)] 4 = mkF m 0 #[(oR x0), .unset, .unset, .unset] [] := by first | (simp [entryFrame, mkF, argsToLocals, Value.category]; done) | rfl
def own_Q_value (Z : State) (sx : Addr) (cs ba vl : Addr) (kcs kba kvl : ClassId) (w0 w1 z0 z1 : UInt64) (b0 b1 : Int32) (vcs : List Value) (h0 : Heap) (n0 : Nat) (v : Option Value) (h : Heap) (L : List Loc) : Prop := v = some (.double (own_tot w0 w1 z0 z1)) ∧ Fr n0 L ∧ h = h0
set_option maxRecDepth 65536 in
set_option maxHeartbeats 40000000 in
theorem own_rm_value (l : Launch) (Z : State) (a0 : Array Value) (hw : ∀ d ∈ tables_1, d.before a0 Z = true) (ws : List Jvm.Cond) (sx : Addr) (cs ba vl : Addr) (kcs kba kvl : ClassId) (w0 w1 z0 z1 : UInt64) (b0 b1 : Int32) (vcs : List Value) (h0 : Heap) (n0 : Nat) (Z0 : n0 ≤ h0.size) (okv : own_ok w0 w1 z0 z1) (hb0 : ¬ b0 < 0 ∧ b0 < 16) (hb1 : ¬ b1 < 0 ∧ b1 < 16) (hw0 : vcs.getD b0.toNatClampNeg (.double 0) = .double w0) (hw1 : vcs.getD b1.toNatClampNeg (.double 0) = .double w1) (Gp0 : Exa Z h0 sx "com/example/composure/composure/select/Simplex") (Gp1 : Fld Z h0 sx "com/example/composure/composure/select/Simplex" "rows" "I" (.int 2)) (Gp2 : Fld Z h0 sx "com/example/composure/composure/select/Simplex" "costs" "[D" (.ref cs)) (Gp3 : Fld Z h0 sx "com/example/composure/composure/select/Simplex" "basis" "[I" (.ref ba)) (Gp4 : Fld Z h0 sx "com/example/composure/composure/select/Simplex" "values" "[D" (.ref vl)) (Gp5 : Arv Z h0 cs kcs .double (16 : Int32) vcs (.double 0)) (Gp6 : Arv Z h0 ba kba .int (2 : Int32) [(.int b0), (.int b1)] (.int 0)) (Gp7 : Arv Z h0 vl kvl .double (2 : Int32) [(.double z0), (.double z1)] (.double 0)) :
    MetFree l (⟨"com/example/composure/composure/select/Simplex", "value", "()D"⟩ : MethodName) (head1 (Jvm.Cond.code (⟨"com/example/composure/composure/select/Simplex", "value", "()D"⟩ : MethodName) prog_72_method_7_code 4 (some .double) :: ws) ({ frames := 0, cells := 0, slots := 0, locals := 0 } : Room)) (fun a U => a = #[(.ref sx)] ∧ Z.Warmed39 U.vm ∧ U.heap = h0) (fun _ _ _ _ _ => True) (fun _ U o U' => ∃ v L, o = .returned v ∧ own_Q_value Z sx cs ba vl kcs kba kvl w0 w1 z0 z1 b0 b1 vcs h0 n0 v U'.heap L ∧ FrameEnd U o U' L ({ frames := 0, cells := 0, slots := 0, locals := 0 } : Room).cells ({ frames := 0, cells := 0, slots := 0, locals := 0 } : Room).slots) := by
  refine MetFree.of_bodySF (plainFor_of_name own_pn_com_example_composure_composure_select_Simplex) hisR ?_
  intro p e s m args below meth c s₁ Bd hml0 hP hKq_
  obtain ⟨rfl, hZ, hh⟩ := hP
  have hx := Bd.exec
  have hby := Bd.bytes
  have hml : c.maxLocals = 4 := hml0
  have hown : s.vm.findClass "com/example/composure/composure/select/Simplex" = some m.cls := findClass_of_methodNamed Bd.named
  have hnm := (name_of_methodNamed Bd.named Bd.method).1
  have ow18 := hw _ (List.mem_of_getElem? (i := 18) rfl)
  have ow25 := hw _ (List.mem_of_getElem? (i := 25) rfl)
  have ow37 := hw _ (List.mem_of_getElem? (i := 37) rfl)
  have ow42 := hw _ (List.mem_of_getElem? (i := 42) rfl)
  have X0 : Stand p l e ({ frames := 0, cells := 0, slots := 0, locals := 0 } : Room) s m #[(.ref sx)] below meth c s₁ [] 0 0 := Stand.of_body Bd
  have e0 : s₁.heap = h0 := by rw [← hh, Bd.state]; rfl
  have N0 := Fr.nil n0
  have pre0 : ∀ t, Steps p.tables e below (s₁.setTop (mkF m 0 #[(oR sx), .unset, .unset, .unset] [])) t → Steps p.tables e below (s₁.setTop (entryFrame m #[(.ref sx)] 4)) t := fun t k => castTop (own_ef_value m sx) k
  refine own_go pre0 ?_
  refine own_abs ?_
  intro Pf hPf
  refine own_go (A := oW p e below s₁ (oF_value m 6 (oR sx) (od FP.dconst0) .second (oi 0) [(.ref sx), (.int 0)])) (fun t k => by
    refine XS.dconst0 X0.here hx rfl (hb hby o727_0) rfl ?_
    refine XS.dstoreN X0.here hx rfl (hb hby o727_1) rfl (l' := #[(oR sx), (od FP.dconst0), .second, .unset]) rfl ?_
    refine XS.iconst X0.here hx rfl (hb hby o727_2) ?_
    refine XS.istoreN X0.here hx rfl (hb hby o727_3) rfl (l' := #[(oR sx), (od FP.dconst0), .second, (oi 0)]) rfl ?_
    show oW p e below s₁ (oF_value m 4 (oR sx) (od FP.dconst0) .second (oi 0) []) _
    refine XS.iloadN X0.here hx rfl (hb hby o727_4) rfl ?_
    refine XS.aloadN X0.here hx rfl (hb hby o727_5) rfl rfl ?_
    exact k) ?_
  obtain ⟨T1, X1, e1, st1⟩ := getF X0 hx hZ hown (host := "") (Or.inl ow25) Via.refl e0 Gp1 (g := (oF_value m 6 (oR sx) (od FP.dconst0) .second (oi 0) [(.ref sx), (.int 0)])) rfl rfl (hb hby o727_6)
  refine own_go st1 ?_
  refine own_go (A := oW p e below T1 (oF_value m 14 (oR sx) (od FP.dconst0) .second (oi 0) [(.ref sx), (.double FP.dconst0)])) (fun t k => by
    refine XS.icmpNo X1.here hx rfl (hb hby o727_9) rfl (tlt (by decide : (0 : Int32) < (2 : Int32))).2.1 ?_
    refine XS.dloadN X1.here hx rfl (hb hby o727_12) rfl ?_
    show oW p e below T1 (oF_value m 13 (oR sx) (od FP.dconst0) .second (oi 0) [(.double FP.dconst0)]) _
    refine XS.aloadN X1.here hx rfl (hb hby o727_13) rfl rfl ?_
    exact k) ?_
  obtain ⟨T2, X2, e2, st2⟩ := getF X1 hx hZ hown (host := "") (Or.inl ow18) Via.refl e1 Gp2 (g := (oF_value m 14 (oR sx) (od FP.dconst0) .second (oi 0) [(.ref sx), (.double FP.dconst0)])) rfl rfl (hb hby o727_14)
  refine own_go st2 ?_
  refine own_go (A := oW p e below T2 (oF_value m 18 (oR sx) (od FP.dconst0) .second (oi 0) [(.ref sx), (.ref cs), (.double FP.dconst0)])) (fun t k => by
    refine XS.aloadN X2.here hx rfl (hb hby o727_17) rfl rfl ?_
    exact k) ?_
  obtain ⟨T3, X3, e3, st3⟩ := getF X2 hx hZ hown (host := "") (Or.inl ow37) Via.refl e2 Gp3 (g := (oF_value m 18 (oR sx) (od FP.dconst0) .second (oi 0) [(.ref sx), (.ref cs), (.double FP.dconst0)])) rfl rfl (hb hby o727_18)
  refine own_go st3 ?_
  refine own_go (A := oW p e below T3 (oF_value m 25 (oR sx) (od FP.dconst0) .second (oi 0) [(.ref sx), (.double w0), (.double FP.dconst0)])) (fun t k => by
    refine XS.iloadN X3.here hx rfl (hb hby o727_21) rfl ?_
    refine own_ldI X3 hx hZ e3 Gp6 ⟨by decide, by decide⟩ (v := (.int b0)) rfl (g := (oF_value m 22 (oR sx) (od FP.dconst0) .second (oi 0) [(.int 0), (.ref ba), (.ref cs), (.double FP.dconst0)])) rfl rfl (hb hby o727_22) _ ?_
    show oW p e below T3 (oF_value m 23 (oR sx) (od FP.dconst0) .second (oi 0) [(.int b0), (.ref cs), (.double FP.dconst0)]) _
    refine own_ldD X3 hx hZ e3 Gp5 hb0 (v := (.double w0)) hw0 (g := (oF_value m 23 (oR sx) (od FP.dconst0) .second (oi 0) [(.int b0), (.ref cs), (.double FP.dconst0)])) rfl rfl (hb hby o727_23) _ ?_
    refine XS.aloadN X3.here hx rfl (hb hby o727_24) rfl rfl ?_
    exact k) ?_
  obtain ⟨T4, X4, e4, st4⟩ := getF X3 hx hZ hown (host := "") (Or.inl ow42) Via.refl e3 Gp4 (g := (oF_value m 25 (oR sx) (od FP.dconst0) .second (oi 0) [(.ref sx), (.double w0), (.double FP.dconst0)])) rfl rfl (hb hby o727_25)
  refine own_go st4 ?_
  refine own_go (A := oW p e below T4 (oF_value m 6 (oR sx) (od (FP.dadd FP.dconst0 (FP.dmul w0 z0))) .second (oi 1) [(.ref sx), (.int 1)])) (fun t k => by
    refine XS.iloadN X4.here hx rfl (hb hby o727_28) rfl ?_
    refine own_ldD X4 hx hZ e4 Gp7 ⟨by decide, by decide⟩ (v := (.double z0)) rfl (g := (oF_value m 29 (oR sx) (od FP.dconst0) .second (oi 0) [(.int 0), (.ref vl), (.double w0), (.double FP.dconst0)])) rfl rfl (hb hby o727_29) _ ?_
    show oW p e below T4 (oF_value m 30 (oR sx) (od FP.dconst0) .second (oi 0) [(.double z0), (.double w0), (.double FP.dconst0)]) _
    refine XS.dmulS X4.here hx rfl (hb hby o727_30) rfl okv.1 rfl ?_
    refine XS.daddS X4.here hx rfl (hb hby o727_31) rfl okv.2.1 rfl ?_
    refine XS.dstoreN X4.here hx rfl (hb hby o727_32) rfl (l' := #[(oR sx), (od (FP.dadd FP.dconst0 (FP.dmul w0 z0))), .second, (oi 0)]) rfl ?_
    refine XS.iinc X4.here hx rfl (hb hby o727_33) rfl (l' := #[(oR sx), (od (FP.dadd FP.dconst0 (FP.dmul w0 z0))), .second, (oi 1)]) rfl ?_
    show oW p e below T4 (oF_value m 36 (oR sx) (od (FP.dadd FP.dconst0 (FP.dmul w0 z0))) .second (oi 1) []) _
    refine XS.goto X4.here hx rfl (pc0 := 36) (pc' := 4) rfl (hb hby o727_36) (by decide) (by decide) ?_
    refine XS.iloadN X4.here hx rfl (hb hby o727_4) rfl ?_
    refine XS.aloadN X4.here hx rfl (hb hby o727_5) rfl rfl ?_
    exact k) ?_
  obtain ⟨T5, X5, e5, st5⟩ := getF X4 hx hZ hown (host := "") (Or.inl ow25) Via.refl e4 Gp1 (g := (oF_value m 6 (oR sx) (od (FP.dadd FP.dconst0 (FP.dmul w0 z0))) .second (oi 1) [(.ref sx), (.int 1)])) rfl rfl (hb hby o727_6)
  refine own_go st5 ?_
  refine own_go (A := oW p e below T5 (oF_value m 14 (oR sx) (od (FP.dadd FP.dconst0 (FP.dmul w0 z0))) .second (oi 1) [(.ref sx), (.double (FP.dadd FP.dconst0 (FP.dmul w0 z0)))])) (fun t k => by
    refine XS.icmpNo X5.here hx rfl (hb hby o727_9) rfl (tlt (by decide : (1 : Int32) < (2 : Int32))).2.1 ?_
    show oW p e below T5 (oF_value m 12 (oR sx) (od (FP.dadd FP.dconst0 (FP.dmul w0 z0))) .second (oi 1) []) _
    refine XS.dloadN X5.here hx rfl (hb hby o727_12) rfl ?_
    refine XS.aloadN X5.here hx rfl (hb hby o727_13) rfl rfl ?_
    exact k) ?_
  obtain ⟨T6, X6, e6, st6⟩ := getF X5 hx hZ hown (host := "") (Or.inl ow18) Via.refl e5 Gp2 (g := (oF_value m 14 (oR sx) (od (FP.dadd FP.dconst0 (FP.dmul w0 z0))) .second (oi 1) [(.ref sx), (.double (FP.dadd FP.dconst0 (FP.dmul w0 z0)))])) rfl rfl (hb hby o727_14)
  refine own_go st6 ?_
  refine own_go (A := oW p e below T6 (oF_value m 18 (oR sx) (od (FP.dadd FP.dconst0 (FP.dmul w0 z0))) .second (oi 1) [(.ref sx), (.ref cs), (.double (FP.dadd FP.dconst0 (FP.dmul w0 z0)))])) (fun t k => by
    refine XS.aloadN X6.here hx rfl (hb hby o727_17) rfl rfl ?_
    exact k) ?_
  obtain ⟨T7, X7, e7, st7⟩ := getF X6 hx hZ hown (host := "") (Or.inl ow37) Via.refl e6 Gp3 (g := (oF_value m 18 (oR sx) (od (FP.dadd FP.dconst0 (FP.dmul w0 z0))) .second (oi 1) [(.ref sx), (.ref cs), (.double (FP.dadd FP.dconst0 (FP.dmul w0 z0)))])) rfl rfl (hb hby o727_18)
  refine own_go st7 ?_
  refine own_go (A := oW p e below T7 (oF_value m 25 (oR sx) (od (FP.dadd FP.dconst0 (FP.dmul w0 z0))) .second (oi 1) [(.ref sx), (.double w1), (.double (FP.dadd FP.dconst0 (FP.dmul w0 z0)))])) (fun t k => by
    refine XS.iloadN X7.here hx rfl (hb hby o727_21) rfl ?_
    show oW p e below T7 (oF_value m 22 (oR sx) (od (FP.dadd FP.dconst0 (FP.dmul w0 z0))) .second (oi 1) [(.int 1), (.ref ba), (.ref cs), (.double (FP.dadd FP.dconst0 (FP.dmul w0 z0)))]) _
    refine own_ldI X7 hx hZ e7 Gp6 ⟨by decide, by decide⟩ (v := (.int b1)) rfl (g := (oF_value m 22 (oR sx) (od (FP.dadd FP.dconst0 (FP.dmul w0 z0))) .second (oi 1) [(.int 1), (.ref ba), (.ref cs), (.double (FP.dadd FP.dconst0 (FP.dmul w0 z0)))])) rfl rfl (hb hby o727_22) _ ?_
    refine own_ldD X7 hx hZ e7 Gp5 hb1 (v := (.double w1)) hw1 (g := (oF_value m 23 (oR sx) (od (FP.dadd FP.dconst0 (FP.dmul w0 z0))) .second (oi 1) [(.int b1), (.ref cs), (.double (FP.dadd FP.dconst0 (FP.dmul w0 z0)))])) rfl rfl (hb hby o727_23) _ ?_
    refine XS.aloadN X7.here hx rfl (hb hby o727_24) rfl rfl ?_
    exact k) ?_
  obtain ⟨T8, X8, e8, st8⟩ := getF X7 hx hZ hown (host := "") (Or.inl ow42) Via.refl e7 Gp4 (g := (oF_value m 25 (oR sx) (od (FP.dadd FP.dconst0 (FP.dmul w0 z0))) .second (oi 1) [(.ref sx), (.double w1), (.double (FP.dadd FP.dconst0 (FP.dmul w0 z0)))])) rfl rfl (hb hby o727_25)
  refine own_go st8 ?_
  refine own_go (A := oW p e below T8 (oF_value m 6 (oR sx) (od (FP.dadd (FP.dadd FP.dconst0 (FP.dmul w0 z0)) (FP.dmul w1 z1))) .second (oi 2) [(.ref sx), (.int 2)])) (fun t k => by
    refine XS.iloadN X8.here hx rfl (hb hby o727_28) rfl ?_
    show oW p e below T8 (oF_value m 29 (oR sx) (od (FP.dadd FP.dconst0 (FP.dmul w0 z0))) .second (oi 1) [(.int 1), (.ref vl), (.double w1), (.double (FP.dadd FP.dconst0 (FP.dmul w0 z0)))]) _
    refine own_ldD X8 hx hZ e8 Gp7 ⟨by decide, by decide⟩ (v := (.double z1)) rfl (g := (oF_value m 29 (oR sx) (od (FP.dadd FP.dconst0 (FP.dmul w0 z0))) .second (oi 1) [(.int 1), (.ref vl), (.double w1), (.double (FP.dadd FP.dconst0 (FP.dmul w0 z0)))])) rfl rfl (hb hby o727_29) _ ?_
    refine XS.dmulS X8.here hx rfl (hb hby o727_30) rfl okv.2.2.1 rfl ?_
    refine XS.daddS X8.here hx rfl (hb hby o727_31) rfl okv.2.2.2 rfl ?_
    refine XS.dstoreN X8.here hx rfl (hb hby o727_32) rfl (l' := #[(oR sx), (od (FP.dadd (FP.dadd FP.dconst0 (FP.dmul w0 z0)) (FP.dmul w1 z1))), .second, (oi 1)]) rfl ?_
    show oW p e below T8 (oF_value m 33 (oR sx) (od (FP.dadd (FP.dadd FP.dconst0 (FP.dmul w0 z0)) (FP.dmul w1 z1))) .second (oi 1) []) _
    refine XS.iinc X8.here hx rfl (hb hby o727_33) rfl (l' := #[(oR sx), (od (FP.dadd (FP.dadd FP.dconst0 (FP.dmul w0 z0)) (FP.dmul w1 z1))), .second, (oi 2)]) rfl ?_
    refine XS.goto X8.here hx rfl (pc0 := 36) (pc' := 4) rfl (hb hby o727_36) (by decide) (by decide) ?_
    refine XS.iloadN X8.here hx rfl (hb hby o727_4) rfl ?_
    refine XS.aloadN X8.here hx rfl (hb hby o727_5) rfl rfl ?_
    exact k) ?_
  obtain ⟨T9, X9, e9, st9⟩ := getF X8 hx hZ hown (host := "") (Or.inl ow25) Via.refl e8 Gp1 (g := (oF_value m 6 (oR sx) (od (FP.dadd (FP.dadd FP.dconst0 (FP.dmul w0 z0)) (FP.dmul w1 z1))) .second (oi 2) [(.ref sx), (.int 2)])) rfl rfl (hb hby o727_6)
  refine own_go st9 ?_
  refine own_go (A := oW p e below T9 (oF_value m 40 (oR sx) (od (FP.dadd (FP.dadd FP.dconst0 (FP.dmul w0 z0)) (FP.dmul w1 z1))) .second (oi 2) [(.double (FP.dadd (FP.dadd FP.dconst0 (FP.dmul w0 z0)) (FP.dmul w1 z1)))])) (fun t k => by
    refine XS.icmpYes X9.here hx rfl (pc0 := 9) (pc' := 39) rfl (hb hby o727_9) rfl (flt (by decide : ¬ ((2 : Int32) < (2 : Int32)))).2.1 (by decide) (by decide) ?_
    refine XS.dloadN X9.here hx rfl (hb hby o727_39) rfl ?_
    exact k) ?_
  obtain ⟨fs, hr, hrun, hended, hW, hsame⟩ := X9.leave (v := some (.double (FP.dadd (FP.dadd FP.dconst0 (FP.dmul w0 z0)) (FP.dmul w1 z1)))) (fun h => by rw [Bd.returns] at h; cases h)
  refine ⟨_, _, retOut X9 hx Bd.returns rfl (Or.inr (Or.inr (Or.inl ⟨rfl, rfl, _, rfl⟩))) (hb hby o727_40) hr, hPf _ _ ⟨hrun, hended, _, _, rfl, ?_, ⟨_, rfl⟩, hW, hsame.mono (by decide) (by decide)⟩⟩
  show own_Q_value Z sx cs ba vl kcs kba kvl w0 w1 z0 z1 b0 b1 vcs h0 n0 _ T9.heap _
  rw [e9]
  exact ⟨rfl, N0, rfl⟩
abbrev oF_init (m : MethodId) (pc : Nat) (a0 a1 : Slot) (S : List Value) : JFrame := mkF m pc #[a0, a1] S
theorem o721_0 : decode prog_72_method_1_code 0 = .ok (.aload_n 0, 1) := by decide +kernel
theorem o721_1 : decode prog_72_method_1_code 1 = .ok (.invokespecial 1, 3) := by decide +kernel
theorem o721_4 : decode prog_72_method_1_code 4 = .ok (.aload_n 0, 1) := by decide +kernel
theorem o721_5 : decode prog_72_method_1_code 5 = .ok (.bipush 16, 2) := by decide +kernel
theorem o721_7 : decode prog_72_method_1_code 7 = .ok (.anewarray 7, 3) := by decide +kernel
theorem o721_10 : decode prog_72_method_1_code 10 = .ok (.putfield 9, 3) := by decide +kernel
theorem o721_13 : decode prog_72_method_1_code 13 = .ok (.aload_n 0, 1) := by decide +kernel
theorem o721_14 : decode prog_72_method_1_code 14 = .ok (.bipush 16, 2) := by decide +kernel
theorem o721_16 : decode prog_72_method_1_code 16 = .ok (.newarray .double, 2) := by decide +kernel
theorem o721_18 : decode prog_72_method_1_code 18 = .ok (.putfield 15, 3) := by decide +kernel
theorem o721_21 : decode prog_72_method_1_code 21 = .ok (.aload_n 0, 1) := by decide +kernel
theorem o721_22 : decode prog_72_method_1_code 22 = .ok (.bipush 16, 2) := by decide +kernel
theorem o721_24 : decode prog_72_method_1_code 24 = .ok (.newarray .boolean, 2) := by decide +kernel
theorem o721_26 : decode prog_72_method_1_code 26 = .ok (.putfield 18, 3) := by decide +kernel
theorem o721_29 : decode prog_72_method_1_code 29 = .ok (.aload_n 0, 1) := by decide +kernel
theorem o721_30 : decode prog_72_method_1_code 30 = .ok (.bipush 16, 2) := by decide +kernel
theorem o721_32 : decode prog_72_method_1_code 32 = .ok (.newarray .boolean, 2) := by decide +kernel
theorem o721_34 : decode prog_72_method_1_code 34 = .ok (.putfield 22, 3) := by decide +kernel
theorem o721_37 : decode prog_72_method_1_code 37 = .ok (.aload_n 0, 1) := by decide +kernel
theorem o721_38 : decode prog_72_method_1_code 38 = .ok (.aload_n 1, 1) := by decide +kernel
theorem o721_39 : decode prog_72_method_1_code 39 = .ok (.arraylength, 1) := by decide +kernel
theorem o721_40 : decode prog_72_method_1_code 40 = .ok (.putfield 25, 3) := by decide +kernel
theorem o721_43 : decode prog_72_method_1_code 43 = .ok (.aload_n 0, 1) := by decide +kernel
theorem o721_44 : decode prog_72_method_1_code 44 = .ok (.aload_n 1, 1) := by decide +kernel
theorem o721_45 : decode prog_72_method_1_code 45 = .ok (.invokevirtual 29, 3) := by decide +kernel
theorem o721_48 : decode prog_72_method_1_code 48 = .ok (.checkcast 7, 3) := by decide +kernel
theorem o721_51 : decode prog_72_method_1_code 51 = .ok (.putfield 33, 3) := by decide +kernel
theorem o721_54 : decode prog_72_method_1_code 54 = .ok (.aload_n 0, 1) := by decide +kernel
theorem o721_55 : decode prog_72_method_1_code 55 = .ok (.aload_n 0, 1) := by decide +kernel
theorem o721_56 : decode prog_72_method_1_code 56 = .ok (.getfield 25, 3) := by decide +kernel
theorem o721_59 : decode prog_72_method_1_code 59 = .ok (.newarray .int, 2) := by decide +kernel
theorem o721_61 : decode prog_72_method_1_code 61 = .ok (.putfield 36, 3) := by decide +kernel
theorem o721_64 : decode prog_72_method_1_code 64 = .ok (.aload_n 0, 1) := by decide +kernel
theorem o721_65 : decode prog_72_method_1_code 65 = .ok (.aload_n 0, 1) := by decide +kernel
theorem o721_66 : decode prog_72_method_1_code 66 = .ok (.getfield 25, 3) := by decide +kernel
theorem o721_69 : decode prog_72_method_1_code 69 = .ok (.aload_n 0, 1) := by decide +kernel
theorem o721_70 : decode prog_72_method_1_code 70 = .ok (.getfield 25, 3) := by decide +kernel
theorem o721_73 : decode prog_72_method_1_code 73 = .ok (.multianewarray 40 2, 4) := by decide +kernel
theorem o721_77 : decode prog_72_method_1_code 77 = .ok (.putfield 41, 3) := by decide +kernel
theorem o721_80 : decode prog_72_method_1_code 80 = .ok (.aload_n 0, 1) := by decide +kernel
theorem o721_81 : decode prog_72_method_1_code 81 = .ok (.aload_n 0, 1) := by decide +kernel
theorem o721_82 : decode prog_72_method_1_code 82 = .ok (.getfield 25, 3) := by decide +kernel
theorem o721_85 : decode prog_72_method_1_code 85 = .ok (.newarray .double, 2) := by decide +kernel
theorem o721_87 : decode prog_72_method_1_code 87 = .ok (.putfield 44, 3) := by decide +kernel
theorem o721_90 : decode prog_72_method_1_code 90 = .ok (.aload_n 0, 1) := by decide +kernel
theorem o721_91 : decode prog_72_method_1_code 91 = .ok (.aload_n 0, 1) := by decide +kernel
theorem o721_92 : decode prog_72_method_1_code 92 = .ok (.getfield 25, 3) := by decide +kernel
theorem o721_95 : decode prog_72_method_1_code 95 = .ok (.iconst 2, 1) := by decide +kernel
theorem o721_96 : decode prog_72_method_1_code 96 = .ok (.aload_n 0, 1) := by decide +kernel
theorem o721_97 : decode prog_72_method_1_code 97 = .ok (.getfield 25, 3) := by decide +kernel
theorem o721_100 : decode prog_72_method_1_code 100 = .ok (.imul, 1) := by decide +kernel
theorem o721_101 : decode prog_72_method_1_code 101 = .ok (.multianewarray 40 2, 4) := by decide +kernel
theorem o721_105 : decode prog_72_method_1_code 105 = .ok (.putfield 47, 3) := by decide +kernel
theorem o721_108 : decode prog_72_method_1_code 108 = .ok (.aload_n 0, 1) := by decide +kernel
theorem o721_109 : decode prog_72_method_1_code 109 = .ok (.aload_n 0, 1) := by decide +kernel
theorem o721_110 : decode prog_72_method_1_code 110 = .ok (.getfield 25, 3) := by decide +kernel
theorem o721_113 : decode prog_72_method_1_code 113 = .ok (.newarray .double, 2) := by decide +kernel
theorem o721_115 : decode prog_72_method_1_code 115 = .ok (.putfield 50, 3) := by decide +kernel
theorem o721_118 : decode prog_72_method_1_code 118 = .ok (.aload_n 0, 1) := by decide +kernel
theorem o721_119 : decode prog_72_method_1_code 119 = .ok (.aload_n 0, 1) := by decide +kernel
theorem o721_120 : decode prog_72_method_1_code 120 = .ok (.getfield 25, 3) := by decide +kernel
theorem o721_123 : decode prog_72_method_1_code 123 = .ok (.newarray .double, 2) := by decide +kernel
theorem o721_125 : decode prog_72_method_1_code 125 = .ok (.putfield 53, 3) := by decide +kernel
theorem o721_128 : decode prog_72_method_1_code 128 = .ok (.aload_n 0, 1) := by decide +kernel
theorem o721_129 : decode prog_72_method_1_code 129 = .ok (.getfield 36, 3) := by decide +kernel
theorem o721_132 : decode prog_72_method_1_code 132 = .ok (.iconst (-1), 1) := by decide +kernel
theorem o721_133 : decode prog_72_method_1_code 133 = .ok (.invokestatic 56, 3) := by decide +kernel
theorem own_pd_285bII29V : parseMethodDescriptor "([II)V" = some ⟨[(.array .int), .int], none⟩ := by decide +kernel
theorem o721_136 : decode prog_72_method_1_code 136 = .ok (.return_, 1) := by decide +kernel
theorem own_ef_init (m : MethodId) (x0 : Addr) (x1 : Addr) : entryFrame m #[(.ref x0), (.ref x1)] 2 = mkF m 0 #[(oR x0), (oR x1)] [] := by first | (simp [entryFrame, mkF, argsToLocals, Value.category]; done) | rfl
def own_Q_init (Z : State) (sx : Addr) (pl : Addr) (kpl : ClassId) (dl dm : UInt64) (h0 : Heap) (n0 : Nat) (v : Option Value) (h : Heap) (L : List Loc) : Prop := ∃ (co cs bc li ba iv i0 i1 vl el m0 m1 : Addr) (kco kcs kbc kli kba kiv ki0 ki1 kvl kel km0 km1 : ClassId), v = none ∧ Fr n0 L ∧ Keep h0 h [sx] ∧ ([co, cs, bc, li, ba, iv, i0, i1, vl, el, m0, m1] : List Addr).Nodup ∧ (h0.size ≤ co ∧ h0.size ≤ cs ∧ h0.size ≤ bc ∧ h0.size ≤ li ∧ h0.size ≤ ba ∧ h0.size ≤ iv ∧ h0.size ≤ i0 ∧ h0.size ≤ i1 ∧ h0.size ≤ vl ∧ h0.size ≤ el ∧ h0.size ≤ m0 ∧ h0.size ≤ m1) ∧ OvrA Z kco .double "[D" ∧ OvrA Z kel .double "[D" ∧ Fld Z h sx "com/example/composure/composure/select/Simplex" "rows" "I" (.int 2) ∧ Fld Z h sx "com/example/composure/composure/select/Simplex" "count" "I" (.int 0) ∧ Fld Z h sx "com/example/composure/composure/select/Simplex" "columns" "[[D" (.ref co) ∧ Fld Z h sx "com/example/composure/composure/select/Simplex" "costs" "[D" (.ref cs) ∧ Fld Z h sx "com/example/composure/composure/select/Simplex" "basic" "[Z" (.ref bc) ∧ Fld Z h sx "com/example/composure/composure/select/Simplex" "limits" "[D" (.ref li) ∧ Fld Z h sx "com/example/composure/composure/select/Simplex" "basis" "[I" (.ref ba) ∧ Fld Z h sx "com/example/composure/composure/select/Simplex" "inverse" "[[D" (.ref iv) ∧ Fld Z h sx "com/example/composure/composure/select/Simplex" "values" "[D" (.ref vl) ∧ Fld Z h sx "com/example/composure/composure/select/Simplex" "elimination" "[[D" (.ref el) ∧ Arv Z h co kco (.array .double) (16 : Int32) [.null, .null, .null, .null, .null, .null, .null, .null, .null, .null, .null, .null, .null, .null, .null, .null] .null ∧ Arv Z h cs kcs .double (16 : Int32) [(.double 0), (.double 0), (.double 0), (.double 0), (.double 0), (.double 0), (.double 0), (.double 0), (.double 0), (.double 0), (.double 0), (.double 0), (.double 0), (.double 0), (.double 0), (.double 0)] (.double 0) ∧ Arv Z h bc kbc .boolean (16 : Int32) [(.int 0), (.int 0), (.int 0), (.int 0), (.int 0), (.int 0), (.int 0), (.int 0), (.int 0), (.int 0), (.int 0), (.int 0), (.int 0), (.int 0), (.int 0), (.int 0)] (.int 0) ∧ Arv Z h li kli .double (2 : Int32) [(.double dl), (.double dm)] (.double 0) ∧ Arv Z h ba kba .int (2 : Int32) [(.int (-1)), (.int (-1))] (.int 0) ∧ Arv Z h iv kiv (.array .double) (2 : Int32) [(.ref i0), (.ref i1)] .null ∧ Arv Z h i0 ki0 .double (2 : Int32) [(.double 0), (.double 0)] (.double 0) ∧ Arv Z h i1 ki1 .double (2 : Int32) [(.double 0), (.double 0)] (.double 0) ∧ Arv Z h vl kvl .double (2 : Int32) [(.double 0), (.double 0)] (.double 0) ∧ Arv Z h el kel (.array .double) (2 : Int32) [(.ref m0), (.ref m1)] .null ∧ Arv Z h m0 km0 .double (4 : Int32) [(.double 0), (.double 0), (.double 0), (.double 0)] (.double 0) ∧ Arv Z h m1 km1 .double (4 : Int32) [(.double 0), (.double 0), (.double 0), (.double 0)] (.double 0) ∧ Exa Z h m0 "[D" ∧ Exa Z h m1 "[D"
set_option maxRecDepth 65536 in
set_option maxHeartbeats 40000000 in
theorem own_rm_init (l : Launch) (Z : State) (a0 : Array Value) (hw : ∀ d ∈ tables_1, d.before a0 Z = true) (ws : List Jvm.Cond) (sx : Addr) (pl : Addr) (kpl : ClassId) (dl dm : UInt64) (h0 : Heap) (n0 : Nat) (Z0 : n0 ≤ h0.size) (g_sx : n0 ≤ sx) (hne : sx ≠ pl) (Gp0 : Exa Z h0 sx "com/example/composure/composure/select/Simplex") (Gp1 : Fld Z h0 sx "com/example/composure/composure/select/Simplex" "columns" "[[D" .null) (Gp2 : Fld Z h0 sx "com/example/composure/composure/select/Simplex" "costs" "[D" .null) (Gp3 : Fld Z h0 sx "com/example/composure/composure/select/Simplex" "barred" "[Z" .null) (Gp4 : Fld Z h0 sx "com/example/composure/composure/select/Simplex" "basic" "[Z" .null) (Gp5 : Fld Z h0 sx "com/example/composure/composure/select/Simplex" "rows" "I" (.int 0)) (Gp6 : Fld Z h0 sx "com/example/composure/composure/select/Simplex" "limits" "[D" .null) (Gp7 : Fld Z h0 sx "com/example/composure/composure/select/Simplex" "basis" "[I" .null) (Gp8 : Fld Z h0 sx "com/example/composure/composure/select/Simplex" "inverse" "[[D" .null) (Gp9 : Fld Z h0 sx "com/example/composure/composure/select/Simplex" "values" "[D" .null) (Gp10 : Fld Z h0 sx "com/example/composure/composure/select/Simplex" "elimination" "[[D" .null) (Gp11 : Fld Z h0 sx "com/example/composure/composure/select/Simplex" "prices" "[D" .null) (Gp12 : Fld Z h0 sx "com/example/composure/composure/select/Simplex" "direction" "[D" .null) (Gp13 : Fld Z h0 sx "com/example/composure/composure/select/Simplex" "count" "I" (.int 0)) (Gp14 : Arv Z h0 pl kpl .double (2 : Int32) [(.double dl), (.double dm)] (.double 0)) (Gp15 : Exa Z h0 pl "[D") :
    MetFree l (⟨"com/example/composure/composure/select/Simplex", "<init>", "([D)V"⟩ : MethodName) (head1 (Jvm.Cond.code (⟨"com/example/composure/composure/select/Simplex", "<init>", "([D)V"⟩ : MethodName) prog_72_method_1_code 2 none :: ws) ({ frames := 1, cells := 15, slots := 90, locals := 15 } : Room)) (fun a U => a = #[(.ref sx), (.ref pl)] ∧ Z.Warmed39 U.vm ∧ U.heap = h0) (fun _ _ _ _ _ => True) (fun _ U o U' => ∃ v L, o = .returned v ∧ own_Q_init Z sx pl kpl dl dm h0 n0 v U'.heap L ∧ FrameEnd U o U' L ({ frames := 1, cells := 15, slots := 90, locals := 15 } : Room).cells ({ frames := 1, cells := 15, slots := 90, locals := 15 } : Room).slots) := by
  refine MetFree.of_bodySF (plainFor_of_name own_pn_com_example_composure_composure_select_Simplex) hisR ?_
  intro p e s m args below meth c s₁ Bd hml0 hP hKq_
  obtain ⟨rfl, hZ, hh⟩ := hP
  have hx := Bd.exec
  have hby := Bd.bytes
  have hml : c.maxLocals = 2 := hml0
  have hown : s.vm.findClass "com/example/composure/composure/select/Simplex" = some m.cls := findClass_of_methodNamed Bd.named
  have hnm := (name_of_methodNamed Bd.named Bd.method).1
  have ow3 := hw _ (List.mem_of_getElem? (i := 3) rfl)
  have ow4 := hw _ (List.mem_of_getElem? (i := 4) rfl)
  have ow6 := hw _ (List.mem_of_getElem? (i := 6) rfl)
  have ow11 := hw _ (List.mem_of_getElem? (i := 11) rfl)
  have ow12 := hw _ (List.mem_of_getElem? (i := 12) rfl)
  have ow13 := hw _ (List.mem_of_getElem? (i := 13) rfl)
  have ow14 := hw _ (List.mem_of_getElem? (i := 14) rfl)
  have ow15 := hw _ (List.mem_of_getElem? (i := 15) rfl)
  have ow16 := hw _ (List.mem_of_getElem? (i := 16) rfl)
  have ow17 := hw _ (List.mem_of_getElem? (i := 17) rfl)
  have ow18 := hw _ (List.mem_of_getElem? (i := 18) rfl)
  have ow19 := hw _ (List.mem_of_getElem? (i := 19) rfl)
  have ow20 := hw _ (List.mem_of_getElem? (i := 20) rfl)
  have ow21 := hw _ (List.mem_of_getElem? (i := 21) rfl)
  have ow22 := hw _ (List.mem_of_getElem? (i := 22) rfl)
  have ow23 := hw _ (List.mem_of_getElem? (i := 23) rfl)
  have ow24 := hw _ (List.mem_of_getElem? (i := 24) rfl)
  have ow25 := hw _ (List.mem_of_getElem? (i := 25) rfl)
  have ow26 := hw _ (List.mem_of_getElem? (i := 26) rfl)
  have ow27 := hw _ (List.mem_of_getElem? (i := 27) rfl)
  have ow28 := hw _ (List.mem_of_getElem? (i := 28) rfl)
  have ow30 := hw _ (List.mem_of_getElem? (i := 30) rfl)
  have ow31 := hw _ (List.mem_of_getElem? (i := 31) rfl)
  have ow32 := hw _ (List.mem_of_getElem? (i := 32) rfl)
  have ow33 := hw _ (List.mem_of_getElem? (i := 33) rfl)
  have ow35 := hw _ (List.mem_of_getElem? (i := 35) rfl)
  have ow36 := hw _ (List.mem_of_getElem? (i := 36) rfl)
  have ow37 := hw _ (List.mem_of_getElem? (i := 37) rfl)
  have ow38 := hw _ (List.mem_of_getElem? (i := 38) rfl)
  have ow39 := hw _ (List.mem_of_getElem? (i := 39) rfl)
  have ow40 := hw _ (List.mem_of_getElem? (i := 40) rfl)
  have ow41 := hw _ (List.mem_of_getElem? (i := 41) rfl)
  have ow42 := hw _ (List.mem_of_getElem? (i := 42) rfl)
  have ow43 := hw _ (List.mem_of_getElem? (i := 43) rfl)
  have ow44 := hw _ (List.mem_of_getElem? (i := 44) rfl)
  have ow45 := hw _ (List.mem_of_getElem? (i := 45) rfl)
  have ow46 := hw _ (List.mem_of_getElem? (i := 46) rfl)
  have ow47 := hw _ (List.mem_of_getElem? (i := 47) rfl)
  have ow48 := hw _ (List.mem_of_getElem? (i := 48) rfl)
  have ow49 := hw _ (List.mem_of_getElem? (i := 49) rfl)
  have ow50 := hw _ (List.mem_of_getElem? (i := 50) rfl)
  have ow51 := hw _ (List.mem_of_getElem? (i := 51) rfl)
  have ow52 := hw _ (List.mem_of_getElem? (i := 52) rfl)
  have ow53 := hw _ (List.mem_of_getElem? (i := 53) rfl)
  have ow60 := hw _ (List.mem_of_getElem? (i := 60) rfl)
  have X0 : Stand p l e ({ frames := 1, cells := 15, slots := 90, locals := 15 } : Room) s m #[(.ref sx), (.ref pl)] below meth c s₁ [] 0 0 := Stand.of_body Bd
  have e0 : s₁.heap = h0 := by rw [← hh, Bd.state]; rfl
  have N0 := Fr.nil n0
  have pre0 : ∀ t, Steps p.tables e below (s₁.setTop (mkF m 0 #[(oR sx), (oR pl)] [])) t → Steps p.tables e below (s₁.setTop (entryFrame m #[(.ref sx), (.ref pl)] 2)) t := fun t k => castTop (own_ef_init m sx pl) k
  refine own_go pre0 ?_
  refine own_abs ?_
  intro Pf hPf
  refine own_go (A := oW p e below s₁ (oF_init m 1 (oR sx) (oR pl) [(.ref sx)])) (fun t k => by
    refine XS.aloadN X0.here hx rfl (hb hby o721_0) rfl rfl ?_
    exact k) ?_
  obtain ⟨T1, X1, e1, st1⟩ := initO X0 hx hZ hown ow11 ow12 ow13 e0 (g := (oF_init m 1 (oR sx) (oR pl) [(.ref sx)])) rfl (by rw [hml]; rfl) rfl (hb hby o721_1) (by decide) (W := 0) (by show 2 * 0 + _ ≤ _; exact Nat.le_of_eq rfl) (by decide)
  refine own_go st1 ?_
  refine own_go (A := oW p e below T1 (oF_init m 7 (oR sx) (oR pl) [(.int 16), (.ref sx)])) (fun t k => by
    refine XS.aloadN X1.here hx rfl (hb hby o721_4) rfl rfl ?_
    refine XS.bipush X1.here hx rfl (hb hby o721_5) ?_
    exact k) ?_
  obtain ⟨T2, h2, k2, X2, e2, E2, A2, Q2, O2, st2⟩ := newRA X1 hx hZ hown (ty := .double) (C := "[D") (by decide) ow14 ow15 e1 (g := (oF_init m 7 (oR sx) (oR pl) [(.int 16), (.ref sx)])) rfl (hb hby o721_7) rfl (by decide) (cap := 16) (by decide) (by decide) (by decide) (by decide) (ad := "[[D") (by decide)
  obtain ⟨b2, g2⟩ : ∃ z, z = h0.size := ⟨_, rfl⟩
  rw [← g2] at A2 Q2 st2
  refine own_go st2 ?_
  have ne_sx_b2 : sx ≠ b2 := Nat.ne_of_lt (Nat.lt_of_lt_of_le Gp0.lt (Nat.le_of_eq g2.symm))
  have ne_pl_b2 : pl ≠ b2 := Nat.ne_of_lt (Nat.lt_of_lt_of_le Gp14.lt (Nat.le_of_eq g2.symm))
  have g_b2 : n0 ≤ b2 := Nat.le_trans Z0 (Nat.le_of_eq g2.symm)
  have Z2 : n0 ≤ h2.size := Nat.le_trans Z0 E2.1
  have sz_b2 : h0.size ≤ b2 := Nat.le_trans (Keep.refl h0 [sx]).1 (Nat.le_of_eq g2.symm)
  have K2 : Keep h0 h2 [sx] := (Keep.refl h0 [sx]).ext E2
  have V2 : Arv Z h2 b2 k2 (.array .double) (16 : Int32) [.null, .null, .null, .null, .null, .null, .null, .null, .null, .null, .null, .null, .null, .null, .null, .null] .null := (Arv.new A2 (by decide)).pad (pad_rep [] .null 16)
  obtain ⟨T3, h3, X3, e3, W3, st3⟩ := putF X2 hx hZ hown (host := "") (Or.inl ow16) Via.refl e2 (Gp1.ext E2) (Gp0.ext E2) (Or.inl ow17) ow6 (ty := (.array (.array .double))) (by decide) rfl rfl (g := (oF_init m 10 (oR sx) (oR pl) [(.ref b2), (.ref sx)])) rfl rfl (hb hby o721_10)
  refine own_go st3 ?_
  have f3_0 : Exa Z h3 sx "com/example/composure/composure/select/Simplex" := (Gp0.ext E2).wr W3
  have f3_1 : Fld Z h3 sx "com/example/composure/composure/select/Simplex" "columns" "[[D" (.ref b2) := (Gp1.ext E2).same W3
  have f3_2 : Fld Z h3 sx "com/example/composure/composure/select/Simplex" "costs" "[D" .null := (Gp2.ext E2).other W3 (Or.inr (slot_ne (Or.inl ow19) (Or.inl ow17) (by decide) (t := (.array .double)) (t' := (.array (.array .double))) (by decide) (by decide)))
  have f3_3 : Fld Z h3 sx "com/example/composure/composure/select/Simplex" "barred" "[Z" .null := (Gp3.ext E2).other W3 (Or.inr (slot_ne (Or.inl ow22) (Or.inl ow17) (by decide) (t := (.array .boolean)) (t' := (.array (.array .double))) (by decide) (by decide)))
  have f3_4 : Fld Z h3 sx "com/example/composure/composure/select/Simplex" "basic" "[Z" .null := (Gp4.ext E2).other W3 (Or.inr (slot_ne (Or.inl ow24) (Or.inl ow17) (by decide) (t := (.array .boolean)) (t' := (.array (.array .double))) (by decide) (by decide)))
  have f3_5 : Fld Z h3 sx "com/example/composure/composure/select/Simplex" "rows" "I" (.int 0) := (Gp5.ext E2).other W3 (Or.inr (slot_ne (Or.inr ow26) (Or.inl ow17) (by decide) (t := .int) (t' := (.array (.array .double))) (by decide) (by decide)))
  have f3_6 : Fld Z h3 sx "com/example/composure/composure/select/Simplex" "limits" "[D" .null := (Gp6.ext E2).other W3 (Or.inr (slot_ne (Or.inr ow36) (Or.inl ow17) (by decide) (t := (.array .double)) (t' := (.array (.array .double))) (by decide) (by decide)))
  have f3_7 : Fld Z h3 sx "com/example/composure/composure/select/Simplex" "basis" "[I" .null := (Gp7.ext E2).other W3 (Or.inr (slot_ne (Or.inr ow38) (Or.inl ow17) (by decide) (t := (.array .int)) (t' := (.array (.array .double))) (by decide) (by decide)))
  have f3_8 : Fld Z h3 sx "com/example/composure/composure/select/Simplex" "inverse" "[[D" .null := (Gp8.ext E2).other W3 (Or.inr (slot_ne (Or.inr ow41) (Or.inl ow17) (by decide) (t := (.array (.array .double))) (t' := (.array (.array .double))) (by decide) (by decide)))
  have f3_9 : Fld Z h3 sx "com/example/composure/composure/select/Simplex" "values" "[D" .null := (Gp9.ext E2).other W3 (Or.inr (slot_ne (Or.inr ow43) (Or.inl ow17) (by decide) (t := (.array .double)) (t' := (.array (.array .double))) (by decide) (by decide)))
  have f3_10 : Fld Z h3 sx "com/example/composure/composure/select/Simplex" "elimination" "[[D" .null := (Gp10.ext E2).other W3 (Or.inr (slot_ne (Or.inr ow45) (Or.inl ow17) (by decide) (t := (.array (.array .double))) (t' := (.array (.array .double))) (by decide) (by decide)))
  have f3_11 : Fld Z h3 sx "com/example/composure/composure/select/Simplex" "prices" "[D" .null := (Gp11.ext E2).other W3 (Or.inr (slot_ne (Or.inr ow47) (Or.inl ow17) (by decide) (t := (.array .double)) (t' := (.array (.array .double))) (by decide) (by decide)))
  have f3_12 : Fld Z h3 sx "com/example/composure/composure/select/Simplex" "direction" "[D" .null := (Gp12.ext E2).other W3 (Or.inr (slot_ne (Or.inr ow49) (Or.inl ow17) (by decide) (t := (.array .double)) (t' := (.array (.array .double))) (by decide) (by decide)))
  have f3_13 : Fld Z h3 sx "com/example/composure/composure/select/Simplex" "count" "I" (.int 0) := (Gp13.ext E2).other W3 (Or.inr (slot_ne (Or.inl ow60) (Or.inl ow17) (by decide) (t := .int) (t' := (.array (.array .double))) (by decide) (by decide)))
  have f3_14 : Arv Z h3 pl kpl .double (2 : Int32) [(.double dl), (.double dm)] (.double 0) := (Gp14.ext E2).other W3 ((Ne.symm hne))
  have f3_15 : Exa Z h3 pl "[D" := (Gp15.ext E2).wr W3
  have f3_16 : Arv Z h3 b2 k2 (.array .double) (16 : Int32) [.null, .null, .null, .null, .null, .null, .null, .null, .null, .null, .null, .null, .null, .null, .null, .null] .null := V2.other W3 ((Ne.symm ne_sx_b2))
  have N3 := Fr.snoc X3 N0 g_sx
  have Z3 : n0 ≤ h3.size := Nat.le_trans Z2 (Keep.of_wr W3).1
  have K3 : Keep h0 h3 [sx] := K2.wr W3 (Or.inl (List.mem_of_getElem? (i := 0) rfl))
  refine own_go (A := oW p e below T3 (oF_init m 16 (oR sx) (oR pl) [(.int 16), (.ref sx)])) (fun t k => by
    refine XS.aloadN X3.here hx rfl (hb hby o721_13) rfl rfl ?_
    show oW p e below T3 (oF_init m 14 (oR sx) (oR pl) [(.ref sx)]) _
    refine XS.bipush X3.here hx rfl (hb hby o721_14) ?_
    exact k) ?_
  obtain ⟨T4, h4, k4, X4, e4, E4, A4, st4⟩ := newP X3 hx hZ (aty := .double) ow4 e3 (g := (oF_init m 16 (oR sx) (oR pl) [(.int 16), (.ref sx)])) rfl (hb hby o721_16) rfl (by decide) (cap := 16) (by decide) (by decide) (by decide) (by decide)
  obtain ⟨b4, g4⟩ : ∃ z, z = h3.size := ⟨_, rfl⟩
  rw [← g4] at A4 st4
  refine own_go st4 ?_
  have ne_sx_b4 : sx ≠ b4 := Nat.ne_of_lt (Nat.lt_of_lt_of_le f3_0.lt (Nat.le_of_eq g4.symm))
  have ne_pl_b4 : pl ≠ b4 := Nat.ne_of_lt (Nat.lt_of_lt_of_le f3_14.lt (Nat.le_of_eq g4.symm))
  have ne_b2_b4 : b2 ≠ b4 := Nat.ne_of_lt (Nat.lt_of_lt_of_le f3_16.lt (Nat.le_of_eq g4.symm))
  have g_b4 : n0 ≤ b4 := Nat.le_trans Z3 (Nat.le_of_eq g4.symm)
  have Z4 : n0 ≤ h4.size := Nat.le_trans Z3 E4.1
  have sz_b4 : h0.size ≤ b4 := Nat.le_trans K3.1 (Nat.le_of_eq g4.symm)
  have K4 : Keep h0 h4 [sx] := K3.ext E4
  have U4 : Arv Z h4 b4 k4 .double (16 : Int32) [] (.double 0) := Arv.new A4 (by decide)
  have V4 : Arv Z h4 b4 k4 .double (16 : Int32) [(.double 0), (.double 0), (.double 0), (.double 0), (.double 0), (.double 0), (.double 0), (.double 0), (.double 0), (.double 0), (.double 0), (.double 0), (.double 0), (.double 0), (.double 0), (.double 0)] (.double 0) := U4.pad (pad_rep [] (.double 0) 16)
  obtain ⟨T5, h5, X5, e5, W5, st5⟩ := putF X4 hx hZ hown (host := "") (Or.inl ow18) Via.refl e4 (f3_2.ext E4) (f3_0.ext E4) (Or.inl ow19) ow6 (ty := (.array .double)) (by decide) rfl rfl (g := (oF_init m 18 (oR sx) (oR pl) [(.ref b4), (.ref sx)])) rfl rfl (hb hby o721_18)
  refine own_go st5 ?_
  have f5_0 : Exa Z h5 sx "com/example/composure/composure/select/Simplex" := (f3_0.ext E4).wr W5
  have f5_1 : Fld Z h5 sx "com/example/composure/composure/select/Simplex" "columns" "[[D" (.ref b2) := (f3_1.ext E4).other W5 (Or.inr (slot_ne (Or.inl ow17) (Or.inl ow19) (by decide) (t := (.array (.array .double))) (t' := (.array .double)) (by decide) (by decide)))
  have f5_2 : Fld Z h5 sx "com/example/composure/composure/select/Simplex" "costs" "[D" (.ref b4) := (f3_2.ext E4).same W5
  have f5_3 : Fld Z h5 sx "com/example/composure/composure/select/Simplex" "barred" "[Z" .null := (f3_3.ext E4).other W5 (Or.inr (slot_ne (Or.inl ow22) (Or.inl ow19) (by decide) (t := (.array .boolean)) (t' := (.array .double)) (by decide) (by decide)))
  have f5_4 : Fld Z h5 sx "com/example/composure/composure/select/Simplex" "basic" "[Z" .null := (f3_4.ext E4).other W5 (Or.inr (slot_ne (Or.inl ow24) (Or.inl ow19) (by decide) (t := (.array .boolean)) (t' := (.array .double)) (by decide) (by decide)))
  have f5_5 : Fld Z h5 sx "com/example/composure/composure/select/Simplex" "rows" "I" (.int 0) := (f3_5.ext E4).other W5 (Or.inr (slot_ne (Or.inr ow26) (Or.inl ow19) (by decide) (t := .int) (t' := (.array .double)) (by decide) (by decide)))
  have f5_6 : Fld Z h5 sx "com/example/composure/composure/select/Simplex" "limits" "[D" .null := (f3_6.ext E4).other W5 (Or.inr (slot_ne (Or.inr ow36) (Or.inl ow19) (by decide) (t := (.array .double)) (t' := (.array .double)) (by decide) (by decide)))
  have f5_7 : Fld Z h5 sx "com/example/composure/composure/select/Simplex" "basis" "[I" .null := (f3_7.ext E4).other W5 (Or.inr (slot_ne (Or.inr ow38) (Or.inl ow19) (by decide) (t := (.array .int)) (t' := (.array .double)) (by decide) (by decide)))
  have f5_8 : Fld Z h5 sx "com/example/composure/composure/select/Simplex" "inverse" "[[D" .null := (f3_8.ext E4).other W5 (Or.inr (slot_ne (Or.inr ow41) (Or.inl ow19) (by decide) (t := (.array (.array .double))) (t' := (.array .double)) (by decide) (by decide)))
  have f5_9 : Fld Z h5 sx "com/example/composure/composure/select/Simplex" "values" "[D" .null := (f3_9.ext E4).other W5 (Or.inr (slot_ne (Or.inr ow43) (Or.inl ow19) (by decide) (t := (.array .double)) (t' := (.array .double)) (by decide) (by decide)))
  have f5_10 : Fld Z h5 sx "com/example/composure/composure/select/Simplex" "elimination" "[[D" .null := (f3_10.ext E4).other W5 (Or.inr (slot_ne (Or.inr ow45) (Or.inl ow19) (by decide) (t := (.array (.array .double))) (t' := (.array .double)) (by decide) (by decide)))
  have f5_11 : Fld Z h5 sx "com/example/composure/composure/select/Simplex" "prices" "[D" .null := (f3_11.ext E4).other W5 (Or.inr (slot_ne (Or.inr ow47) (Or.inl ow19) (by decide) (t := (.array .double)) (t' := (.array .double)) (by decide) (by decide)))
  have f5_12 : Fld Z h5 sx "com/example/composure/composure/select/Simplex" "direction" "[D" .null := (f3_12.ext E4).other W5 (Or.inr (slot_ne (Or.inr ow49) (Or.inl ow19) (by decide) (t := (.array .double)) (t' := (.array .double)) (by decide) (by decide)))
  have f5_13 : Fld Z h5 sx "com/example/composure/composure/select/Simplex" "count" "I" (.int 0) := (f3_13.ext E4).other W5 (Or.inr (slot_ne (Or.inl ow60) (Or.inl ow19) (by decide) (t := .int) (t' := (.array .double)) (by decide) (by decide)))
  have f5_14 : Arv Z h5 pl kpl .double (2 : Int32) [(.double dl), (.double dm)] (.double 0) := (f3_14.ext E4).other W5 ((Ne.symm hne))
  have f5_15 : Exa Z h5 pl "[D" := (f3_15.ext E4).wr W5
  have f5_16 : Arv Z h5 b2 k2 (.array .double) (16 : Int32) [.null, .null, .null, .null, .null, .null, .null, .null, .null, .null, .null, .null, .null, .null, .null, .null] .null := (f3_16.ext E4).other W5 ((Ne.symm ne_sx_b2))
  have f5_17 : Arv Z h5 b4 k4 .double (16 : Int32) [(.double 0), (.double 0), (.double 0), (.double 0), (.double 0), (.double 0), (.double 0), (.double 0), (.double 0), (.double 0), (.double 0), (.double 0), (.double 0), (.double 0), (.double 0), (.double 0)] (.double 0) := V4.other W5 ((Ne.symm ne_sx_b4))
  have N5 := Fr.snoc X5 N3 g_sx
  have Z5 : n0 ≤ h5.size := Nat.le_trans Z4 (Keep.of_wr W5).1
  have K5 : Keep h0 h5 [sx] := K4.wr W5 (Or.inl (List.mem_of_getElem? (i := 0) rfl))
  refine own_go (A := oW p e below T5 (oF_init m 24 (oR sx) (oR pl) [(.int 16), (.ref sx)])) (fun t k => by
    refine XS.aloadN X5.here hx rfl (hb hby o721_21) rfl rfl ?_
    refine XS.bipush X5.here hx rfl (hb hby o721_22) ?_
    exact k) ?_
  obtain ⟨T6, h6, k6, X6, e6, E6, A6, st6⟩ := newP X5 hx hZ (aty := .boolean) ow20 e5 (g := (oF_init m 24 (oR sx) (oR pl) [(.int 16), (.ref sx)])) rfl (hb hby o721_24) rfl (by decide) (cap := 16) (by decide) (by decide) (by decide) (by decide)
  obtain ⟨b6, g6⟩ : ∃ z, z = h5.size := ⟨_, rfl⟩
  rw [← g6] at A6 st6
  refine own_go st6 ?_
  have ne_sx_b6 : sx ≠ b6 := Nat.ne_of_lt (Nat.lt_of_lt_of_le f5_0.lt (Nat.le_of_eq g6.symm))
  have ne_pl_b6 : pl ≠ b6 := Nat.ne_of_lt (Nat.lt_of_lt_of_le f5_14.lt (Nat.le_of_eq g6.symm))
  have ne_b2_b6 : b2 ≠ b6 := Nat.ne_of_lt (Nat.lt_of_lt_of_le f5_16.lt (Nat.le_of_eq g6.symm))
  have ne_b4_b6 : b4 ≠ b6 := Nat.ne_of_lt (Nat.lt_of_lt_of_le f5_17.lt (Nat.le_of_eq g6.symm))
  have g_b6 : n0 ≤ b6 := Nat.le_trans Z5 (Nat.le_of_eq g6.symm)
  have Z6 : n0 ≤ h6.size := Nat.le_trans Z5 E6.1
  have sz_b6 : h0.size ≤ b6 := Nat.le_trans K5.1 (Nat.le_of_eq g6.symm)
  have K6 : Keep h0 h6 [sx] := K5.ext E6
  have U6 : Arv Z h6 b6 k6 .boolean (16 : Int32) [] (.int 0) := Arv.new A6 (by decide)
  have V6 : Arv Z h6 b6 k6 .boolean (16 : Int32) [(.int 0), (.int 0), (.int 0), (.int 0), (.int 0), (.int 0), (.int 0), (.int 0), (.int 0), (.int 0), (.int 0), (.int 0), (.int 0), (.int 0), (.int 0), (.int 0)] (.int 0) := U6.pad (pad_rep [] (.int 0) 16)
  obtain ⟨T7, h7, X7, e7, W7, st7⟩ := putF X6 hx hZ hown (host := "") (Or.inl ow21) Via.refl e6 (f5_3.ext E6) (f5_0.ext E6) (Or.inl ow22) ow6 (ty := (.array .boolean)) (by decide) rfl rfl (g := (oF_init m 26 (oR sx) (oR pl) [(.ref b6), (.ref sx)])) rfl rfl (hb hby o721_26)
  refine own_go st7 ?_
  have f7_0 : Exa Z h7 sx "com/example/composure/composure/select/Simplex" := (f5_0.ext E6).wr W7
  have f7_1 : Fld Z h7 sx "com/example/composure/composure/select/Simplex" "columns" "[[D" (.ref b2) := (f5_1.ext E6).other W7 (Or.inr (slot_ne (Or.inl ow17) (Or.inl ow22) (by decide) (t := (.array (.array .double))) (t' := (.array .boolean)) (by decide) (by decide)))
  have f7_2 : Fld Z h7 sx "com/example/composure/composure/select/Simplex" "costs" "[D" (.ref b4) := (f5_2.ext E6).other W7 (Or.inr (slot_ne (Or.inl ow19) (Or.inl ow22) (by decide) (t := (.array .double)) (t' := (.array .boolean)) (by decide) (by decide)))
  have f7_3 : Fld Z h7 sx "com/example/composure/composure/select/Simplex" "barred" "[Z" (.ref b6) := (f5_3.ext E6).same W7
  have f7_4 : Fld Z h7 sx "com/example/composure/composure/select/Simplex" "basic" "[Z" .null := (f5_4.ext E6).other W7 (Or.inr (slot_ne (Or.inl ow24) (Or.inl ow22) (by decide) (t := (.array .boolean)) (t' := (.array .boolean)) (by decide) (by decide)))
  have f7_5 : Fld Z h7 sx "com/example/composure/composure/select/Simplex" "rows" "I" (.int 0) := (f5_5.ext E6).other W7 (Or.inr (slot_ne (Or.inr ow26) (Or.inl ow22) (by decide) (t := .int) (t' := (.array .boolean)) (by decide) (by decide)))
  have f7_6 : Fld Z h7 sx "com/example/composure/composure/select/Simplex" "limits" "[D" .null := (f5_6.ext E6).other W7 (Or.inr (slot_ne (Or.inr ow36) (Or.inl ow22) (by decide) (t := (.array .double)) (t' := (.array .boolean)) (by decide) (by decide)))
  have f7_7 : Fld Z h7 sx "com/example/composure/composure/select/Simplex" "basis" "[I" .null := (f5_7.ext E6).other W7 (Or.inr (slot_ne (Or.inr ow38) (Or.inl ow22) (by decide) (t := (.array .int)) (t' := (.array .boolean)) (by decide) (by decide)))
  have f7_8 : Fld Z h7 sx "com/example/composure/composure/select/Simplex" "inverse" "[[D" .null := (f5_8.ext E6).other W7 (Or.inr (slot_ne (Or.inr ow41) (Or.inl ow22) (by decide) (t := (.array (.array .double))) (t' := (.array .boolean)) (by decide) (by decide)))
  have f7_9 : Fld Z h7 sx "com/example/composure/composure/select/Simplex" "values" "[D" .null := (f5_9.ext E6).other W7 (Or.inr (slot_ne (Or.inr ow43) (Or.inl ow22) (by decide) (t := (.array .double)) (t' := (.array .boolean)) (by decide) (by decide)))
  have f7_10 : Fld Z h7 sx "com/example/composure/composure/select/Simplex" "elimination" "[[D" .null := (f5_10.ext E6).other W7 (Or.inr (slot_ne (Or.inr ow45) (Or.inl ow22) (by decide) (t := (.array (.array .double))) (t' := (.array .boolean)) (by decide) (by decide)))
  have f7_11 : Fld Z h7 sx "com/example/composure/composure/select/Simplex" "prices" "[D" .null := (f5_11.ext E6).other W7 (Or.inr (slot_ne (Or.inr ow47) (Or.inl ow22) (by decide) (t := (.array .double)) (t' := (.array .boolean)) (by decide) (by decide)))
  have f7_12 : Fld Z h7 sx "com/example/composure/composure/select/Simplex" "direction" "[D" .null := (f5_12.ext E6).other W7 (Or.inr (slot_ne (Or.inr ow49) (Or.inl ow22) (by decide) (t := (.array .double)) (t' := (.array .boolean)) (by decide) (by decide)))
  have f7_13 : Fld Z h7 sx "com/example/composure/composure/select/Simplex" "count" "I" (.int 0) := (f5_13.ext E6).other W7 (Or.inr (slot_ne (Or.inl ow60) (Or.inl ow22) (by decide) (t := .int) (t' := (.array .boolean)) (by decide) (by decide)))
  have f7_14 : Arv Z h7 pl kpl .double (2 : Int32) [(.double dl), (.double dm)] (.double 0) := (f5_14.ext E6).other W7 ((Ne.symm hne))
  have f7_15 : Exa Z h7 pl "[D" := (f5_15.ext E6).wr W7
  have f7_16 : Arv Z h7 b2 k2 (.array .double) (16 : Int32) [.null, .null, .null, .null, .null, .null, .null, .null, .null, .null, .null, .null, .null, .null, .null, .null] .null := (f5_16.ext E6).other W7 ((Ne.symm ne_sx_b2))
  have f7_17 : Arv Z h7 b4 k4 .double (16 : Int32) [(.double 0), (.double 0), (.double 0), (.double 0), (.double 0), (.double 0), (.double 0), (.double 0), (.double 0), (.double 0), (.double 0), (.double 0), (.double 0), (.double 0), (.double 0), (.double 0)] (.double 0) := (f5_17.ext E6).other W7 ((Ne.symm ne_sx_b4))
  have f7_18 : Arv Z h7 b6 k6 .boolean (16 : Int32) [(.int 0), (.int 0), (.int 0), (.int 0), (.int 0), (.int 0), (.int 0), (.int 0), (.int 0), (.int 0), (.int 0), (.int 0), (.int 0), (.int 0), (.int 0), (.int 0)] (.int 0) := V6.other W7 ((Ne.symm ne_sx_b6))
  have N7 := Fr.snoc X7 N5 g_sx
  have Z7 : n0 ≤ h7.size := Nat.le_trans Z6 (Keep.of_wr W7).1
  have K7 : Keep h0 h7 [sx] := K6.wr W7 (Or.inl (List.mem_of_getElem? (i := 0) rfl))
  refine own_go (A := oW p e below T7 (oF_init m 32 (oR sx) (oR pl) [(.int 16), (.ref sx)])) (fun t k => by
    refine XS.aloadN X7.here hx rfl (hb hby o721_29) rfl rfl ?_
    show oW p e below T7 (oF_init m 30 (oR sx) (oR pl) [(.ref sx)]) _
    refine XS.bipush X7.here hx rfl (hb hby o721_30) ?_
    exact k) ?_
  obtain ⟨T8, h8, k8, X8, e8, E8, A8, st8⟩ := newP X7 hx hZ (aty := .boolean) ow20 e7 (g := (oF_init m 32 (oR sx) (oR pl) [(.int 16), (.ref sx)])) rfl (hb hby o721_32) rfl (by decide) (cap := 16) (by decide) (by decide) (by decide) (by decide)
  obtain ⟨b8, g8⟩ : ∃ z, z = h7.size := ⟨_, rfl⟩
  rw [← g8] at A8 st8
  refine own_go st8 ?_
  have ne_sx_b8 : sx ≠ b8 := Nat.ne_of_lt (Nat.lt_of_lt_of_le f7_0.lt (Nat.le_of_eq g8.symm))
  have ne_pl_b8 : pl ≠ b8 := Nat.ne_of_lt (Nat.lt_of_lt_of_le f7_14.lt (Nat.le_of_eq g8.symm))
  have ne_b2_b8 : b2 ≠ b8 := Nat.ne_of_lt (Nat.lt_of_lt_of_le f7_16.lt (Nat.le_of_eq g8.symm))
  have ne_b4_b8 : b4 ≠ b8 := Nat.ne_of_lt (Nat.lt_of_lt_of_le f7_17.lt (Nat.le_of_eq g8.symm))
  have g_b8 : n0 ≤ b8 := Nat.le_trans Z7 (Nat.le_of_eq g8.symm)
  have Z8 : n0 ≤ h8.size := Nat.le_trans Z7 E8.1
  have sz_b8 : h0.size ≤ b8 := Nat.le_trans K7.1 (Nat.le_of_eq g8.symm)
  have K8 : Keep h0 h8 [sx] := K7.ext E8
  have U8 : Arv Z h8 b8 k8 .boolean (16 : Int32) [] (.int 0) := Arv.new A8 (by decide)
  have V8 : Arv Z h8 b8 k8 .boolean (16 : Int32) [(.int 0), (.int 0), (.int 0), (.int 0), (.int 0), (.int 0), (.int 0), (.int 0), (.int 0), (.int 0), (.int 0), (.int 0), (.int 0), (.int 0), (.int 0), (.int 0)] (.int 0) := U8.pad (pad_rep [] (.int 0) 16)
  obtain ⟨T9, h9, X9, e9, W9, st9⟩ := putF X8 hx hZ hown (host := "") (Or.inl ow23) Via.refl e8 (f7_4.ext E8) (f7_0.ext E8) (Or.inl ow24) ow6 (ty := (.array .boolean)) (by decide) rfl rfl (g := (oF_init m 34 (oR sx) (oR pl) [(.ref b8), (.ref sx)])) rfl rfl (hb hby o721_34)
  refine own_go st9 ?_
  have f9_0 : Exa Z h9 sx "com/example/composure/composure/select/Simplex" := (f7_0.ext E8).wr W9
  have f9_1 : Fld Z h9 sx "com/example/composure/composure/select/Simplex" "columns" "[[D" (.ref b2) := (f7_1.ext E8).other W9 (Or.inr (slot_ne (Or.inl ow17) (Or.inl ow24) (by decide) (t := (.array (.array .double))) (t' := (.array .boolean)) (by decide) (by decide)))
  have f9_2 : Fld Z h9 sx "com/example/composure/composure/select/Simplex" "costs" "[D" (.ref b4) := (f7_2.ext E8).other W9 (Or.inr (slot_ne (Or.inl ow19) (Or.inl ow24) (by decide) (t := (.array .double)) (t' := (.array .boolean)) (by decide) (by decide)))
  have f9_3 : Fld Z h9 sx "com/example/composure/composure/select/Simplex" "basic" "[Z" (.ref b8) := (f7_4.ext E8).same W9
  have f9_4 : Fld Z h9 sx "com/example/composure/composure/select/Simplex" "rows" "I" (.int 0) := (f7_5.ext E8).other W9 (Or.inr (slot_ne (Or.inr ow26) (Or.inl ow24) (by decide) (t := .int) (t' := (.array .boolean)) (by decide) (by decide)))
  have f9_5 : Fld Z h9 sx "com/example/composure/composure/select/Simplex" "limits" "[D" .null := (f7_6.ext E8).other W9 (Or.inr (slot_ne (Or.inr ow36) (Or.inl ow24) (by decide) (t := (.array .double)) (t' := (.array .boolean)) (by decide) (by decide)))
  have f9_6 : Fld Z h9 sx "com/example/composure/composure/select/Simplex" "basis" "[I" .null := (f7_7.ext E8).other W9 (Or.inr (slot_ne (Or.inr ow38) (Or.inl ow24) (by decide) (t := (.array .int)) (t' := (.array .boolean)) (by decide) (by decide)))
  have f9_7 : Fld Z h9 sx "com/example/composure/composure/select/Simplex" "inverse" "[[D" .null := (f7_8.ext E8).other W9 (Or.inr (slot_ne (Or.inr ow41) (Or.inl ow24) (by decide) (t := (.array (.array .double))) (t' := (.array .boolean)) (by decide) (by decide)))
  have f9_8 : Fld Z h9 sx "com/example/composure/composure/select/Simplex" "values" "[D" .null := (f7_9.ext E8).other W9 (Or.inr (slot_ne (Or.inr ow43) (Or.inl ow24) (by decide) (t := (.array .double)) (t' := (.array .boolean)) (by decide) (by decide)))
  have f9_9 : Fld Z h9 sx "com/example/composure/composure/select/Simplex" "elimination" "[[D" .null := (f7_10.ext E8).other W9 (Or.inr (slot_ne (Or.inr ow45) (Or.inl ow24) (by decide) (t := (.array (.array .double))) (t' := (.array .boolean)) (by decide) (by decide)))
  have f9_10 : Fld Z h9 sx "com/example/composure/composure/select/Simplex" "prices" "[D" .null := (f7_11.ext E8).other W9 (Or.inr (slot_ne (Or.inr ow47) (Or.inl ow24) (by decide) (t := (.array .double)) (t' := (.array .boolean)) (by decide) (by decide)))
  have f9_11 : Fld Z h9 sx "com/example/composure/composure/select/Simplex" "direction" "[D" .null := (f7_12.ext E8).other W9 (Or.inr (slot_ne (Or.inr ow49) (Or.inl ow24) (by decide) (t := (.array .double)) (t' := (.array .boolean)) (by decide) (by decide)))
  have f9_12 : Fld Z h9 sx "com/example/composure/composure/select/Simplex" "count" "I" (.int 0) := (f7_13.ext E8).other W9 (Or.inr (slot_ne (Or.inl ow60) (Or.inl ow24) (by decide) (t := .int) (t' := (.array .boolean)) (by decide) (by decide)))
  have f9_13 : Arv Z h9 pl kpl .double (2 : Int32) [(.double dl), (.double dm)] (.double 0) := (f7_14.ext E8).other W9 ((Ne.symm hne))
  have f9_14 : Exa Z h9 pl "[D" := (f7_15.ext E8).wr W9
  have f9_15 : Arv Z h9 b2 k2 (.array .double) (16 : Int32) [.null, .null, .null, .null, .null, .null, .null, .null, .null, .null, .null, .null, .null, .null, .null, .null] .null := (f7_16.ext E8).other W9 ((Ne.symm ne_sx_b2))
  have f9_16 : Arv Z h9 b4 k4 .double (16 : Int32) [(.double 0), (.double 0), (.double 0), (.double 0), (.double 0), (.double 0), (.double 0), (.double 0), (.double 0), (.double 0), (.double 0), (.double 0), (.double 0), (.double 0), (.double 0), (.double 0)] (.double 0) := (f7_17.ext E8).other W9 ((Ne.symm ne_sx_b4))
  have f9_17 : Arv Z h9 b8 k8 .boolean (16 : Int32) [(.int 0), (.int 0), (.int 0), (.int 0), (.int 0), (.int 0), (.int 0), (.int 0), (.int 0), (.int 0), (.int 0), (.int 0), (.int 0), (.int 0), (.int 0), (.int 0)] (.int 0) := V8.other W9 ((Ne.symm ne_sx_b8))
  have N9 := Fr.snoc X9 N7 g_sx
  have Z9 : n0 ≤ h9.size := Nat.le_trans Z8 (Keep.of_wr W9).1
  have K9 : Keep h0 h9 [sx] := K8.wr W9 (Or.inl (List.mem_of_getElem? (i := 0) rfl))
  refine own_go (A := oW p e below T9 (oF_init m 40 (oR sx) (oR pl) [(.int 2), (.ref sx)])) (fun t k => by
    refine XS.aloadN X9.here hx rfl (hb hby o721_37) rfl rfl ?_
    refine XS.aloadN X9.here hx rfl (hb hby o721_38) rfl rfl ?_
    refine own_len2 X9 hx hZ e9 f9_13 (g := (oF_init m 39 (oR sx) (oR pl) [(.ref pl), (.ref sx)])) rfl rfl (hb hby o721_39) _ ?_
    exact k) ?_
  obtain ⟨T10, h10, X10, e10, W10, st10⟩ := putF X9 hx hZ hown (host := "") (Or.inl ow25) Via.refl e9 f9_4 f9_0 (Or.inr ⟨ow26, rfl, hnm⟩) ow6 (ty := .int) (by decide) rfl rfl (g := (oF_init m 40 (oR sx) (oR pl) [(.int 2), (.ref sx)])) rfl rfl (hb hby o721_40)
  refine own_go st10 ?_
  have f10_0 : Exa Z h10 sx "com/example/composure/composure/select/Simplex" := f9_0.wr W10
  have f10_1 : Fld Z h10 sx "com/example/composure/composure/select/Simplex" "columns" "[[D" (.ref b2) := f9_1.other W10 (Or.inr (slot_ne (Or.inl ow17) (Or.inr ow26) (by decide) (t := (.array (.array .double))) (t' := .int) (by decide) (by decide)))
  have f10_2 : Fld Z h10 sx "com/example/composure/composure/select/Simplex" "costs" "[D" (.ref b4) := f9_2.other W10 (Or.inr (slot_ne (Or.inl ow19) (Or.inr ow26) (by decide) (t := (.array .double)) (t' := .int) (by decide) (by decide)))
  have f10_3 : Fld Z h10 sx "com/example/composure/composure/select/Simplex" "basic" "[Z" (.ref b8) := f9_3.other W10 (Or.inr (slot_ne (Or.inl ow24) (Or.inr ow26) (by decide) (t := (.array .boolean)) (t' := .int) (by decide) (by decide)))
  have f10_4 : Fld Z h10 sx "com/example/composure/composure/select/Simplex" "rows" "I" (.int 2) := f9_4.same W10
  have f10_5 : Fld Z h10 sx "com/example/composure/composure/select/Simplex" "limits" "[D" .null := f9_5.other W10 (Or.inr (slot_ne (Or.inr ow36) (Or.inr ow26) (by decide) (t := (.array .double)) (t' := .int) (by decide) (by decide)))
  have f10_6 : Fld Z h10 sx "com/example/composure/composure/select/Simplex" "basis" "[I" .null := f9_6.other W10 (Or.inr (slot_ne (Or.inr ow38) (Or.inr ow26) (by decide) (t := (.array .int)) (t' := .int) (by decide) (by decide)))
  have f10_7 : Fld Z h10 sx "com/example/composure/composure/select/Simplex" "inverse" "[[D" .null := f9_7.other W10 (Or.inr (slot_ne (Or.inr ow41) (Or.inr ow26) (by decide) (t := (.array (.array .double))) (t' := .int) (by decide) (by decide)))
  have f10_8 : Fld Z h10 sx "com/example/composure/composure/select/Simplex" "values" "[D" .null := f9_8.other W10 (Or.inr (slot_ne (Or.inr ow43) (Or.inr ow26) (by decide) (t := (.array .double)) (t' := .int) (by decide) (by decide)))
  have f10_9 : Fld Z h10 sx "com/example/composure/composure/select/Simplex" "elimination" "[[D" .null := f9_9.other W10 (Or.inr (slot_ne (Or.inr ow45) (Or.inr ow26) (by decide) (t := (.array (.array .double))) (t' := .int) (by decide) (by decide)))
  have f10_10 : Fld Z h10 sx "com/example/composure/composure/select/Simplex" "prices" "[D" .null := f9_10.other W10 (Or.inr (slot_ne (Or.inr ow47) (Or.inr ow26) (by decide) (t := (.array .double)) (t' := .int) (by decide) (by decide)))
  have f10_11 : Fld Z h10 sx "com/example/composure/composure/select/Simplex" "direction" "[D" .null := f9_11.other W10 (Or.inr (slot_ne (Or.inr ow49) (Or.inr ow26) (by decide) (t := (.array .double)) (t' := .int) (by decide) (by decide)))
  have f10_12 : Fld Z h10 sx "com/example/composure/composure/select/Simplex" "count" "I" (.int 0) := f9_12.other W10 (Or.inr (slot_ne (Or.inl ow60) (Or.inr ow26) (by decide) (t := .int) (t' := .int) (by decide) (by decide)))
  have f10_13 : Arv Z h10 pl kpl .double (2 : Int32) [(.double dl), (.double dm)] (.double 0) := f9_13.other W10 ((Ne.symm hne))
  have f10_14 : Exa Z h10 pl "[D" := f9_14.wr W10
  have f10_15 : Arv Z h10 b2 k2 (.array .double) (16 : Int32) [.null, .null, .null, .null, .null, .null, .null, .null, .null, .null, .null, .null, .null, .null, .null, .null] .null := f9_15.other W10 ((Ne.symm ne_sx_b2))
  have f10_16 : Arv Z h10 b4 k4 .double (16 : Int32) [(.double 0), (.double 0), (.double 0), (.double 0), (.double 0), (.double 0), (.double 0), (.double 0), (.double 0), (.double 0), (.double 0), (.double 0), (.double 0), (.double 0), (.double 0), (.double 0)] (.double 0) := f9_16.other W10 ((Ne.symm ne_sx_b4))
  have f10_17 : Arv Z h10 b8 k8 .boolean (16 : Int32) [(.int 0), (.int 0), (.int 0), (.int 0), (.int 0), (.int 0), (.int 0), (.int 0), (.int 0), (.int 0), (.int 0), (.int 0), (.int 0), (.int 0), (.int 0), (.int 0)] (.int 0) := f9_17.other W10 ((Ne.symm ne_sx_b8))
  have N10 := Fr.snoc X10 N9 g_sx
  have Z10 : n0 ≤ h10.size := Nat.le_trans Z9 (Keep.of_wr W10).1
  have K10 : Keep h0 h10 [sx] := K9.wr W10 (Or.inl (List.mem_of_getElem? (i := 0) rfl))
  refine own_go (A := oW p e below T10 (oF_init m 45 (oR sx) (oR pl) [(.ref pl), (.ref sx)])) (fun t k => by
    refine XS.aloadN X10.here hx rfl (hb hby o721_43) rfl rfl ?_
    refine XS.aloadN X10.here hx rfl (hb hby o721_44) rfl rfl ?_
    exact k) ?_
  obtain ⟨T11, h11, X11, e11, E11, A11, Q11, st11⟩ := own_cloneV X10 hx hZ hown ow27 ow28 ow32 ow30 ow31 ow33 e10 f10_13 f10_14 (g := (oF_init m 45 (oR sx) (oR pl) [(.ref pl), (.ref sx)])) rfl (by rw [hml]; rfl) rfl (hb hby o721_45) (by decide) (W := 1) (by show 2 * 0 + _ ≤ _; exact Nat.le_of_eq rfl) (by decide) (cap := 2) (by decide) (by decide) (by decide)
  obtain ⟨b11, g11⟩ : ∃ z, z = h10.size := ⟨_, rfl⟩
  rw [← g11] at A11 Q11 st11
  refine own_go st11 ?_
  have ne_sx_b11 : sx ≠ b11 := Nat.ne_of_lt (Nat.lt_of_lt_of_le f10_0.lt (Nat.le_of_eq g11.symm))
  have ne_pl_b11 : pl ≠ b11 := Nat.ne_of_lt (Nat.lt_of_lt_of_le f10_13.lt (Nat.le_of_eq g11.symm))
  have ne_b2_b11 : b2 ≠ b11 := Nat.ne_of_lt (Nat.lt_of_lt_of_le f10_15.lt (Nat.le_of_eq g11.symm))
  have ne_b4_b11 : b4 ≠ b11 := Nat.ne_of_lt (Nat.lt_of_lt_of_le f10_16.lt (Nat.le_of_eq g11.symm))
  have ne_b8_b11 : b8 ≠ b11 := Nat.ne_of_lt (Nat.lt_of_lt_of_le f10_17.lt (Nat.le_of_eq g11.symm))
  have g_b11 : n0 ≤ b11 := Nat.le_trans Z10 (Nat.le_of_eq g11.symm)
  have Z11 : n0 ≤ h11.size := Nat.le_trans Z10 E11.1
  have sz_b11 : h0.size ≤ b11 := Nat.le_trans K10.1 (Nat.le_of_eq g11.symm)
  have K11 : Keep h0 h11 [sx] := K10.ext E11
  obtain ⟨T12, X12, e12, st12⟩ := castY X11 hx hZ hown ow14 e11 (Ins.self Q11) (g := (oF_init m 48 (oR sx) (oR pl) [(.ref b11), (.ref sx)])) rfl rfl (hb hby o721_48)
  refine own_go st12 ?_
  obtain ⟨T13, h13, X13, e13, W13, st13⟩ := putF X12 hx hZ hown (host := "") (Or.inl ow35) Via.refl e12 (f10_5.ext E11) (f10_0.ext E11) (Or.inr ⟨ow36, rfl, hnm⟩) ow6 (ty := (.array .double)) (by decide) rfl rfl (g := (oF_init m 51 (oR sx) (oR pl) [(.ref b11), (.ref sx)])) rfl rfl (hb hby o721_51)
  refine own_go st13 ?_
  have f13_0 : Exa Z h13 sx "com/example/composure/composure/select/Simplex" := (f10_0.ext E11).wr W13
  have f13_1 : Fld Z h13 sx "com/example/composure/composure/select/Simplex" "columns" "[[D" (.ref b2) := (f10_1.ext E11).other W13 (Or.inr (slot_ne (Or.inl ow17) (Or.inr ow36) (by decide) (t := (.array (.array .double))) (t' := (.array .double)) (by decide) (by decide)))
  have f13_2 : Fld Z h13 sx "com/example/composure/composure/select/Simplex" "costs" "[D" (.ref b4) := (f10_2.ext E11).other W13 (Or.inr (slot_ne (Or.inl ow19) (Or.inr ow36) (by decide) (t := (.array .double)) (t' := (.array .double)) (by decide) (by decide)))
  have f13_3 : Fld Z h13 sx "com/example/composure/composure/select/Simplex" "basic" "[Z" (.ref b8) := (f10_3.ext E11).other W13 (Or.inr (slot_ne (Or.inl ow24) (Or.inr ow36) (by decide) (t := (.array .boolean)) (t' := (.array .double)) (by decide) (by decide)))
  have f13_4 : Fld Z h13 sx "com/example/composure/composure/select/Simplex" "rows" "I" (.int 2) := (f10_4.ext E11).other W13 (Or.inr (slot_ne (Or.inr ow26) (Or.inr ow36) (by decide) (t := .int) (t' := (.array .double)) (by decide) (by decide)))
  have f13_5 : Fld Z h13 sx "com/example/composure/composure/select/Simplex" "limits" "[D" (.ref b11) := (f10_5.ext E11).same W13
  have f13_6 : Fld Z h13 sx "com/example/composure/composure/select/Simplex" "basis" "[I" .null := (f10_6.ext E11).other W13 (Or.inr (slot_ne (Or.inr ow38) (Or.inr ow36) (by decide) (t := (.array .int)) (t' := (.array .double)) (by decide) (by decide)))
  have f13_7 : Fld Z h13 sx "com/example/composure/composure/select/Simplex" "inverse" "[[D" .null := (f10_7.ext E11).other W13 (Or.inr (slot_ne (Or.inr ow41) (Or.inr ow36) (by decide) (t := (.array (.array .double))) (t' := (.array .double)) (by decide) (by decide)))
  have f13_8 : Fld Z h13 sx "com/example/composure/composure/select/Simplex" "values" "[D" .null := (f10_8.ext E11).other W13 (Or.inr (slot_ne (Or.inr ow43) (Or.inr ow36) (by decide) (t := (.array .double)) (t' := (.array .double)) (by decide) (by decide)))
  have f13_9 : Fld Z h13 sx "com/example/composure/composure/select/Simplex" "elimination" "[[D" .null := (f10_9.ext E11).other W13 (Or.inr (slot_ne (Or.inr ow45) (Or.inr ow36) (by decide) (t := (.array (.array .double))) (t' := (.array .double)) (by decide) (by decide)))
  have f13_10 : Fld Z h13 sx "com/example/composure/composure/select/Simplex" "prices" "[D" .null := (f10_10.ext E11).other W13 (Or.inr (slot_ne (Or.inr ow47) (Or.inr ow36) (by decide) (t := (.array .double)) (t' := (.array .double)) (by decide) (by decide)))
  have f13_11 : Fld Z h13 sx "com/example/composure/composure/select/Simplex" "direction" "[D" .null := (f10_11.ext E11).other W13 (Or.inr (slot_ne (Or.inr ow49) (Or.inr ow36) (by decide) (t := (.array .double)) (t' := (.array .double)) (by decide) (by decide)))
  have f13_12 : Fld Z h13 sx "com/example/composure/composure/select/Simplex" "count" "I" (.int 0) := (f10_12.ext E11).other W13 (Or.inr (slot_ne (Or.inl ow60) (Or.inr ow36) (by decide) (t := .int) (t' := (.array .double)) (by decide) (by decide)))
  have f13_13 : Arv Z h13 pl kpl .double (2 : Int32) [(.double dl), (.double dm)] (.double 0) := (f10_13.ext E11).other W13 ((Ne.symm hne))
  have f13_14 : Exa Z h13 pl "[D" := (f10_14.ext E11).wr W13
  have f13_15 : Arv Z h13 b2 k2 (.array .double) (16 : Int32) [.null, .null, .null, .null, .null, .null, .null, .null, .null, .null, .null, .null, .null, .null, .null, .null] .null := (f10_15.ext E11).other W13 ((Ne.symm ne_sx_b2))
  have f13_16 : Arv Z h13 b4 k4 .double (16 : Int32) [(.double 0), (.double 0), (.double 0), (.double 0), (.double 0), (.double 0), (.double 0), (.double 0), (.double 0), (.double 0), (.double 0), (.double 0), (.double 0), (.double 0), (.double 0), (.double 0)] (.double 0) := (f10_16.ext E11).other W13 ((Ne.symm ne_sx_b4))
  have f13_17 : Arv Z h13 b8 k8 .boolean (16 : Int32) [(.int 0), (.int 0), (.int 0), (.int 0), (.int 0), (.int 0), (.int 0), (.int 0), (.int 0), (.int 0), (.int 0), (.int 0), (.int 0), (.int 0), (.int 0), (.int 0)] (.int 0) := (f10_17.ext E11).other W13 ((Ne.symm ne_sx_b8))
  have f13_18 : Arv Z h13 b11 kpl .double (2 : Int32) [(.double dl), (.double dm)] (.double 0) := A11.other W13 ((Ne.symm ne_sx_b11))
  have f13_19 : Exa Z h13 b11 "[D" := Q11.wr W13
  have N13 := Fr.snoc X13 N10 g_sx
  have Z13 : n0 ≤ h13.size := Nat.le_trans Z11 (Keep.of_wr W13).1
  have K13 : Keep h0 h13 [sx] := K11.wr W13 (Or.inl (List.mem_of_getElem? (i := 0) rfl))
  refine own_go (A := oW p e below T13 (oF_init m 56 (oR sx) (oR pl) [(.ref sx), (.ref sx)])) (fun t k => by
    refine XS.aloadN X13.here hx rfl (hb hby o721_54) rfl rfl ?_
    refine XS.aloadN X13.here hx rfl (hb hby o721_55) rfl rfl ?_
    exact k) ?_
  obtain ⟨T14, X14, e14, st14⟩ := getF X13 hx hZ hown (host := "") (Or.inl ow25) Via.refl e13 f13_4 (g := (oF_init m 56 (oR sx) (oR pl) [(.ref sx), (.ref sx)])) rfl rfl (hb hby o721_56)
  refine own_go st14 ?_
  obtain ⟨T15, h15, k15, X15, e15, E15, A15, st15⟩ := newP X14 hx hZ (aty := .int) ow3 e14 (g := (oF_init m 59 (oR sx) (oR pl) [(.int 2), (.ref sx)])) rfl (hb hby o721_59) rfl (by decide) (cap := 2) (by decide) (by decide) (by decide) (by decide)
  obtain ⟨b15, g15⟩ : ∃ z, z = h13.size := ⟨_, rfl⟩
  rw [← g15] at A15 st15
  refine own_go st15 ?_
  have ne_sx_b15 : sx ≠ b15 := Nat.ne_of_lt (Nat.lt_of_lt_of_le f13_0.lt (Nat.le_of_eq g15.symm))
  have ne_pl_b15 : pl ≠ b15 := Nat.ne_of_lt (Nat.lt_of_lt_of_le f13_13.lt (Nat.le_of_eq g15.symm))
  have ne_b2_b15 : b2 ≠ b15 := Nat.ne_of_lt (Nat.lt_of_lt_of_le f13_15.lt (Nat.le_of_eq g15.symm))
  have ne_b4_b15 : b4 ≠ b15 := Nat.ne_of_lt (Nat.lt_of_lt_of_le f13_16.lt (Nat.le_of_eq g15.symm))
  have ne_b8_b15 : b8 ≠ b15 := Nat.ne_of_lt (Nat.lt_of_lt_of_le f13_17.lt (Nat.le_of_eq g15.symm))
  have ne_b11_b15 : b11 ≠ b15 := Nat.ne_of_lt (Nat.lt_of_lt_of_le f13_18.lt (Nat.le_of_eq g15.symm))
  have g_b15 : n0 ≤ b15 := Nat.le_trans Z13 (Nat.le_of_eq g15.symm)
  have Z15 : n0 ≤ h15.size := Nat.le_trans Z13 E15.1
  have sz_b15 : h0.size ≤ b15 := Nat.le_trans K13.1 (Nat.le_of_eq g15.symm)
  have K15 : Keep h0 h15 [sx] := K13.ext E15
  have U15 : Arv Z h15 b15 k15 .int (2 : Int32) [] (.int 0) := Arv.new A15 (by decide)
  have V15 : Arv Z h15 b15 k15 .int (2 : Int32) [(.int 0), (.int 0)] (.int 0) := U15.pad (pad_rep [] (.int 0) 2)
  obtain ⟨T16, h16, X16, e16, W16, st16⟩ := putF X15 hx hZ hown (host := "") (Or.inl ow37) Via.refl e15 (f13_6.ext E15) (f13_0.ext E15) (Or.inr ⟨ow38, rfl, hnm⟩) ow6 (ty := (.array .int)) (by decide) rfl rfl (g := (oF_init m 61 (oR sx) (oR pl) [(.ref b15), (.ref sx)])) rfl rfl (hb hby o721_61)
  refine own_go st16 ?_
  have f16_0 : Exa Z h16 sx "com/example/composure/composure/select/Simplex" := (f13_0.ext E15).wr W16
  have f16_1 : Fld Z h16 sx "com/example/composure/composure/select/Simplex" "columns" "[[D" (.ref b2) := (f13_1.ext E15).other W16 (Or.inr (slot_ne (Or.inl ow17) (Or.inr ow38) (by decide) (t := (.array (.array .double))) (t' := (.array .int)) (by decide) (by decide)))
  have f16_2 : Fld Z h16 sx "com/example/composure/composure/select/Simplex" "costs" "[D" (.ref b4) := (f13_2.ext E15).other W16 (Or.inr (slot_ne (Or.inl ow19) (Or.inr ow38) (by decide) (t := (.array .double)) (t' := (.array .int)) (by decide) (by decide)))
  have f16_3 : Fld Z h16 sx "com/example/composure/composure/select/Simplex" "basic" "[Z" (.ref b8) := (f13_3.ext E15).other W16 (Or.inr (slot_ne (Or.inl ow24) (Or.inr ow38) (by decide) (t := (.array .boolean)) (t' := (.array .int)) (by decide) (by decide)))
  have f16_4 : Fld Z h16 sx "com/example/composure/composure/select/Simplex" "rows" "I" (.int 2) := (f13_4.ext E15).other W16 (Or.inr (slot_ne (Or.inr ow26) (Or.inr ow38) (by decide) (t := .int) (t' := (.array .int)) (by decide) (by decide)))
  have f16_5 : Fld Z h16 sx "com/example/composure/composure/select/Simplex" "limits" "[D" (.ref b11) := (f13_5.ext E15).other W16 (Or.inr (slot_ne (Or.inr ow36) (Or.inr ow38) (by decide) (t := (.array .double)) (t' := (.array .int)) (by decide) (by decide)))
  have f16_6 : Fld Z h16 sx "com/example/composure/composure/select/Simplex" "basis" "[I" (.ref b15) := (f13_6.ext E15).same W16
  have f16_7 : Fld Z h16 sx "com/example/composure/composure/select/Simplex" "inverse" "[[D" .null := (f13_7.ext E15).other W16 (Or.inr (slot_ne (Or.inr ow41) (Or.inr ow38) (by decide) (t := (.array (.array .double))) (t' := (.array .int)) (by decide) (by decide)))
  have f16_8 : Fld Z h16 sx "com/example/composure/composure/select/Simplex" "values" "[D" .null := (f13_8.ext E15).other W16 (Or.inr (slot_ne (Or.inr ow43) (Or.inr ow38) (by decide) (t := (.array .double)) (t' := (.array .int)) (by decide) (by decide)))
  have f16_9 : Fld Z h16 sx "com/example/composure/composure/select/Simplex" "elimination" "[[D" .null := (f13_9.ext E15).other W16 (Or.inr (slot_ne (Or.inr ow45) (Or.inr ow38) (by decide) (t := (.array (.array .double))) (t' := (.array .int)) (by decide) (by decide)))
  have f16_10 : Fld Z h16 sx "com/example/composure/composure/select/Simplex" "prices" "[D" .null := (f13_10.ext E15).other W16 (Or.inr (slot_ne (Or.inr ow47) (Or.inr ow38) (by decide) (t := (.array .double)) (t' := (.array .int)) (by decide) (by decide)))
  have f16_11 : Fld Z h16 sx "com/example/composure/composure/select/Simplex" "direction" "[D" .null := (f13_11.ext E15).other W16 (Or.inr (slot_ne (Or.inr ow49) (Or.inr ow38) (by decide) (t := (.array .double)) (t' := (.array .int)) (by decide) (by decide)))
  have f16_12 : Fld Z h16 sx "com/example/composure/composure/select/Simplex" "count" "I" (.int 0) := (f13_12.ext E15).other W16 (Or.inr (slot_ne (Or.inl ow60) (Or.inr ow38) (by decide) (t := .int) (t' := (.array .int)) (by decide) (by decide)))
  have f16_13 : Arv Z h16 pl kpl .double (2 : Int32) [(.double dl), (.double dm)] (.double 0) := (f13_13.ext E15).other W16 ((Ne.symm hne))
  have f16_14 : Exa Z h16 pl "[D" := (f13_14.ext E15).wr W16
  have f16_15 : Arv Z h16 b2 k2 (.array .double) (16 : Int32) [.null, .null, .null, .null, .null, .null, .null, .null, .null, .null, .null, .null, .null, .null, .null, .null] .null := (f13_15.ext E15).other W16 ((Ne.symm ne_sx_b2))
  have f16_16 : Arv Z h16 b4 k4 .double (16 : Int32) [(.double 0), (.double 0), (.double 0), (.double 0), (.double 0), (.double 0), (.double 0), (.double 0), (.double 0), (.double 0), (.double 0), (.double 0), (.double 0), (.double 0), (.double 0), (.double 0)] (.double 0) := (f13_16.ext E15).other W16 ((Ne.symm ne_sx_b4))
  have f16_17 : Arv Z h16 b8 k8 .boolean (16 : Int32) [(.int 0), (.int 0), (.int 0), (.int 0), (.int 0), (.int 0), (.int 0), (.int 0), (.int 0), (.int 0), (.int 0), (.int 0), (.int 0), (.int 0), (.int 0), (.int 0)] (.int 0) := (f13_17.ext E15).other W16 ((Ne.symm ne_sx_b8))
  have f16_18 : Arv Z h16 b11 kpl .double (2 : Int32) [(.double dl), (.double dm)] (.double 0) := (f13_18.ext E15).other W16 ((Ne.symm ne_sx_b11))
  have f16_19 : Exa Z h16 b11 "[D" := (f13_19.ext E15).wr W16
  have f16_20 : Arv Z h16 b15 k15 .int (2 : Int32) [(.int 0), (.int 0)] (.int 0) := V15.other W16 ((Ne.symm ne_sx_b15))
  have N16 := Fr.snoc X16 N13 g_sx
  have Z16 : n0 ≤ h16.size := Nat.le_trans Z15 (Keep.of_wr W16).1
  have K16 : Keep h0 h16 [sx] := K15.wr W16 (Or.inl (List.mem_of_getElem? (i := 0) rfl))
  refine own_go (A := oW p e below T16 (oF_init m 66 (oR sx) (oR pl) [(.ref sx), (.ref sx)])) (fun t k => by
    refine XS.aloadN X16.here hx rfl (hb hby o721_64) rfl rfl ?_
    refine XS.aloadN X16.here hx rfl (hb hby o721_65) rfl rfl ?_
    exact k) ?_
  obtain ⟨T17, X17, e17, st17⟩ := getF X16 hx hZ hown (host := "") (Or.inl ow25) Via.refl e16 f16_4 (g := (oF_init m 66 (oR sx) (oR pl) [(.ref sx), (.ref sx)])) rfl rfl (hb hby o721_66)
  refine own_go st17 ?_
  refine own_go (A := oW p e below T17 (oF_init m 70 (oR sx) (oR pl) [(.ref sx), (.int 2), (.ref sx)])) (fun t k => by
    refine XS.aloadN X17.here hx rfl (hb hby o721_69) rfl rfl ?_
    exact k) ?_
  obtain ⟨T18, X18, e18, st18⟩ := getF X17 hx hZ hown (host := "") (Or.inl ow25) Via.refl e17 f16_4 (g := (oF_init m 70 (oR sx) (oR pl) [(.ref sx), (.int 2), (.ref sx)])) rfl rfl (hb hby o721_70)
  refine own_go st18 ?_
  obtain ⟨T19, h19, k19, j19, X19, e19, E19, A19, O19, -, R19, st19⟩ := gridM X18 hx hZ hown (ty := .double) (C := "[D") (ad := "[[D") (by decide) (by decide) ow39 ow15 ow4 e18 (g := (oF_init m 73 (oR sx) (oR pl) [(.int 2), (.int 2), (.ref sx)])) rfl (hb hby o721_73) rfl (by decide) (by decide) (xs := [h16.size + 1 + 0, h16.size + 1 + 1]) (N := 2) (by decide) rfl (cap := 2) (by decide) (by decide) (by decide) (by decide) (by decide) (by decide) (by decide)
  have V19 : Arv Z h19 h16.size k19 (.array .double) (2 : Int32) [(.ref (h16.size + 1 + 0)), (.ref (h16.size + 1 + 1))] .null := A19
  obtain ⟨B19_0, Q19_0⟩ := R19 0 (h16.size + 1 + 0) rfl
  have U19_0 : Arv Z h19 (h16.size + 1 + 0) j19 .double (2 : Int32) [] (.double 0) := Arv.new B19_0 (by decide)
  have V19_0 : Arv Z h19 (h16.size + 1 + 0) j19 .double (2 : Int32) [(.double 0), (.double 0)] (.double 0) := U19_0.pad (pad_rep [] (.double 0) 2)
  obtain ⟨B19_1, Q19_1⟩ := R19 1 (h16.size + 1 + 1) rfl
  have U19_1 : Arv Z h19 (h16.size + 1 + 1) j19 .double (2 : Int32) [] (.double 0) := Arv.new B19_1 (by decide)
  have V19_1 : Arv Z h19 (h16.size + 1 + 1) j19 .double (2 : Int32) [(.double 0), (.double 0)] (.double 0) := U19_1.pad (pad_rep [] (.double 0) 2)
  obtain ⟨b19_0, g19_0⟩ : ∃ z, z = h16.size + 1 + 0 := ⟨_, rfl⟩
  obtain ⟨b19_1, g19_1⟩ : ∃ z, z = h16.size + 1 + 1 := ⟨_, rfl⟩
  rw [← g19_1, ← g19_0] at V19
  rw [← g19_0] at V19_0
  rw [← g19_1] at V19_1
  obtain ⟨b19, g19⟩ : ∃ z, z = h16.size := ⟨_, rfl⟩
  rw [← g19] at V19 st19
  clear A19
  refine own_go st19 ?_
  have l19_0 : h16.size ≤ b19_0 := by omega
  have l19_1 : h16.size ≤ b19_1 := by omega
  have ne_sx_b19 : sx ≠ b19 := Nat.ne_of_lt (Nat.lt_of_lt_of_le f16_0.lt (Nat.le_of_eq g19.symm))
  have ne_pl_b19 : pl ≠ b19 := Nat.ne_of_lt (Nat.lt_of_lt_of_le f16_13.lt (Nat.le_of_eq g19.symm))
  have ne_b2_b19 : b2 ≠ b19 := Nat.ne_of_lt (Nat.lt_of_lt_of_le f16_15.lt (Nat.le_of_eq g19.symm))
  have ne_b4_b19 : b4 ≠ b19 := Nat.ne_of_lt (Nat.lt_of_lt_of_le f16_16.lt (Nat.le_of_eq g19.symm))
  have ne_b8_b19 : b8 ≠ b19 := Nat.ne_of_lt (Nat.lt_of_lt_of_le f16_17.lt (Nat.le_of_eq g19.symm))
  have ne_b11_b19 : b11 ≠ b19 := Nat.ne_of_lt (Nat.lt_of_lt_of_le f16_18.lt (Nat.le_of_eq g19.symm))
  have ne_b15_b19 : b15 ≠ b19 := Nat.ne_of_lt (Nat.lt_of_lt_of_le f16_20.lt (Nat.le_of_eq g19.symm))
  have ne_sx_b19_0 : sx ≠ b19_0 := Nat.ne_of_lt (Nat.lt_of_lt_of_le f16_0.lt l19_0)
  have ne_pl_b19_0 : pl ≠ b19_0 := Nat.ne_of_lt (Nat.lt_of_lt_of_le f16_13.lt l19_0)
  have ne_b2_b19_0 : b2 ≠ b19_0 := Nat.ne_of_lt (Nat.lt_of_lt_of_le f16_15.lt l19_0)
  have ne_b4_b19_0 : b4 ≠ b19_0 := Nat.ne_of_lt (Nat.lt_of_lt_of_le f16_16.lt l19_0)
  have ne_b8_b19_0 : b8 ≠ b19_0 := Nat.ne_of_lt (Nat.lt_of_lt_of_le f16_17.lt l19_0)
  have ne_b11_b19_0 : b11 ≠ b19_0 := Nat.ne_of_lt (Nat.lt_of_lt_of_le f16_18.lt l19_0)
  have ne_b15_b19_0 : b15 ≠ b19_0 := Nat.ne_of_lt (Nat.lt_of_lt_of_le f16_20.lt l19_0)
  have ne_b19_b19_0 : b19 ≠ b19_0 := Nat.ne_of_lt (by omega)
  have ne_sx_b19_1 : sx ≠ b19_1 := Nat.ne_of_lt (Nat.lt_of_lt_of_le f16_0.lt l19_1)
  have ne_pl_b19_1 : pl ≠ b19_1 := Nat.ne_of_lt (Nat.lt_of_lt_of_le f16_13.lt l19_1)
  have ne_b2_b19_1 : b2 ≠ b19_1 := Nat.ne_of_lt (Nat.lt_of_lt_of_le f16_15.lt l19_1)
  have ne_b4_b19_1 : b4 ≠ b19_1 := Nat.ne_of_lt (Nat.lt_of_lt_of_le f16_16.lt l19_1)
  have ne_b8_b19_1 : b8 ≠ b19_1 := Nat.ne_of_lt (Nat.lt_of_lt_of_le f16_17.lt l19_1)
  have ne_b11_b19_1 : b11 ≠ b19_1 := Nat.ne_of_lt (Nat.lt_of_lt_of_le f16_18.lt l19_1)
  have ne_b15_b19_1 : b15 ≠ b19_1 := Nat.ne_of_lt (Nat.lt_of_lt_of_le f16_20.lt l19_1)
  have ne_b19_b19_1 : b19 ≠ b19_1 := Nat.ne_of_lt (by omega)
  have ne_b19_0_b19_1 : b19_0 ≠ b19_1 := Nat.ne_of_lt (by omega)
  have g_b19 : n0 ≤ b19 := Nat.le_trans Z16 (Nat.le_of_eq g19.symm)
  have Z19 : n0 ≤ h19.size := Nat.le_trans Z16 E19.1
  have sz_b19 : h0.size ≤ b19 := Nat.le_trans K16.1 (Nat.le_of_eq g19.symm)
  have K19 : Keep h0 h19 [sx] := K16.ext E19
  have g_b19_0 : n0 ≤ b19_0 := Nat.le_trans Z16 l19_0
  have sz_b19_0 : h0.size ≤ b19_0 := Nat.le_trans K16.1 l19_0
  have g_b19_1 : n0 ≤ b19_1 := Nat.le_trans Z16 l19_1
  have sz_b19_1 : h0.size ≤ b19_1 := Nat.le_trans K16.1 l19_1
  obtain ⟨T20, h20, X20, e20, W20, st20⟩ := putF X19 hx hZ hown (host := "") (Or.inl ow40) Via.refl e19 (f16_7.ext E19) (f16_0.ext E19) (Or.inr ⟨ow41, rfl, hnm⟩) ow6 (ty := (.array (.array .double))) (by decide) rfl rfl (g := (oF_init m 77 (oR sx) (oR pl) [(.ref b19), (.ref sx)])) rfl rfl (hb hby o721_77)
  refine own_go st20 ?_
  have f20_0 : Exa Z h20 sx "com/example/composure/composure/select/Simplex" := (f16_0.ext E19).wr W20
  have f20_1 : Fld Z h20 sx "com/example/composure/composure/select/Simplex" "columns" "[[D" (.ref b2) := (f16_1.ext E19).other W20 (Or.inr (slot_ne (Or.inl ow17) (Or.inr ow41) (by decide) (t := (.array (.array .double))) (t' := (.array (.array .double))) (by decide) (by decide)))
  have f20_2 : Fld Z h20 sx "com/example/composure/composure/select/Simplex" "costs" "[D" (.ref b4) := (f16_2.ext E19).other W20 (Or.inr (slot_ne (Or.inl ow19) (Or.inr ow41) (by decide) (t := (.array .double)) (t' := (.array (.array .double))) (by decide) (by decide)))
  have f20_3 : Fld Z h20 sx "com/example/composure/composure/select/Simplex" "basic" "[Z" (.ref b8) := (f16_3.ext E19).other W20 (Or.inr (slot_ne (Or.inl ow24) (Or.inr ow41) (by decide) (t := (.array .boolean)) (t' := (.array (.array .double))) (by decide) (by decide)))
  have f20_4 : Fld Z h20 sx "com/example/composure/composure/select/Simplex" "rows" "I" (.int 2) := (f16_4.ext E19).other W20 (Or.inr (slot_ne (Or.inr ow26) (Or.inr ow41) (by decide) (t := .int) (t' := (.array (.array .double))) (by decide) (by decide)))
  have f20_5 : Fld Z h20 sx "com/example/composure/composure/select/Simplex" "limits" "[D" (.ref b11) := (f16_5.ext E19).other W20 (Or.inr (slot_ne (Or.inr ow36) (Or.inr ow41) (by decide) (t := (.array .double)) (t' := (.array (.array .double))) (by decide) (by decide)))
  have f20_6 : Fld Z h20 sx "com/example/composure/composure/select/Simplex" "basis" "[I" (.ref b15) := (f16_6.ext E19).other W20 (Or.inr (slot_ne (Or.inr ow38) (Or.inr ow41) (by decide) (t := (.array .int)) (t' := (.array (.array .double))) (by decide) (by decide)))
  have f20_7 : Fld Z h20 sx "com/example/composure/composure/select/Simplex" "inverse" "[[D" (.ref b19) := (f16_7.ext E19).same W20
  have f20_8 : Fld Z h20 sx "com/example/composure/composure/select/Simplex" "values" "[D" .null := (f16_8.ext E19).other W20 (Or.inr (slot_ne (Or.inr ow43) (Or.inr ow41) (by decide) (t := (.array .double)) (t' := (.array (.array .double))) (by decide) (by decide)))
  have f20_9 : Fld Z h20 sx "com/example/composure/composure/select/Simplex" "elimination" "[[D" .null := (f16_9.ext E19).other W20 (Or.inr (slot_ne (Or.inr ow45) (Or.inr ow41) (by decide) (t := (.array (.array .double))) (t' := (.array (.array .double))) (by decide) (by decide)))
  have f20_10 : Fld Z h20 sx "com/example/composure/composure/select/Simplex" "prices" "[D" .null := (f16_10.ext E19).other W20 (Or.inr (slot_ne (Or.inr ow47) (Or.inr ow41) (by decide) (t := (.array .double)) (t' := (.array (.array .double))) (by decide) (by decide)))
  have f20_11 : Fld Z h20 sx "com/example/composure/composure/select/Simplex" "direction" "[D" .null := (f16_11.ext E19).other W20 (Or.inr (slot_ne (Or.inr ow49) (Or.inr ow41) (by decide) (t := (.array .double)) (t' := (.array (.array .double))) (by decide) (by decide)))
  have f20_12 : Fld Z h20 sx "com/example/composure/composure/select/Simplex" "count" "I" (.int 0) := (f16_12.ext E19).other W20 (Or.inr (slot_ne (Or.inl ow60) (Or.inr ow41) (by decide) (t := .int) (t' := (.array (.array .double))) (by decide) (by decide)))
  have f20_13 : Arv Z h20 pl kpl .double (2 : Int32) [(.double dl), (.double dm)] (.double 0) := (f16_13.ext E19).other W20 ((Ne.symm hne))
  have f20_14 : Exa Z h20 pl "[D" := (f16_14.ext E19).wr W20
  have f20_15 : Arv Z h20 b2 k2 (.array .double) (16 : Int32) [.null, .null, .null, .null, .null, .null, .null, .null, .null, .null, .null, .null, .null, .null, .null, .null] .null := (f16_15.ext E19).other W20 ((Ne.symm ne_sx_b2))
  have f20_16 : Arv Z h20 b4 k4 .double (16 : Int32) [(.double 0), (.double 0), (.double 0), (.double 0), (.double 0), (.double 0), (.double 0), (.double 0), (.double 0), (.double 0), (.double 0), (.double 0), (.double 0), (.double 0), (.double 0), (.double 0)] (.double 0) := (f16_16.ext E19).other W20 ((Ne.symm ne_sx_b4))
  have f20_17 : Arv Z h20 b8 k8 .boolean (16 : Int32) [(.int 0), (.int 0), (.int 0), (.int 0), (.int 0), (.int 0), (.int 0), (.int 0), (.int 0), (.int 0), (.int 0), (.int 0), (.int 0), (.int 0), (.int 0), (.int 0)] (.int 0) := (f16_17.ext E19).other W20 ((Ne.symm ne_sx_b8))
  have f20_18 : Arv Z h20 b11 kpl .double (2 : Int32) [(.double dl), (.double dm)] (.double 0) := (f16_18.ext E19).other W20 ((Ne.symm ne_sx_b11))
  have f20_19 : Exa Z h20 b11 "[D" := (f16_19.ext E19).wr W20
  have f20_20 : Arv Z h20 b15 k15 .int (2 : Int32) [(.int 0), (.int 0)] (.int 0) := (f16_20.ext E19).other W20 ((Ne.symm ne_sx_b15))
  have f20_21 : Arv Z h20 b19 k19 (.array .double) (2 : Int32) [(.ref b19_0), (.ref b19_1)] .null := V19.other W20 ((Ne.symm ne_sx_b19))
  have f20_22 : Arv Z h20 b19_0 j19 .double (2 : Int32) [(.double 0), (.double 0)] (.double 0) := V19_0.other W20 ((Ne.symm ne_sx_b19_0))
  have f20_23 : Exa Z h20 b19_0 "[D" := (g19_0 ▸ Q19_0).wr W20
  have f20_24 : Arv Z h20 b19_1 j19 .double (2 : Int32) [(.double 0), (.double 0)] (.double 0) := V19_1.other W20 ((Ne.symm ne_sx_b19_1))
  have f20_25 : Exa Z h20 b19_1 "[D" := (g19_1 ▸ Q19_1).wr W20
  have N20 := Fr.snoc X20 N16 g_sx
  have Z20 : n0 ≤ h20.size := Nat.le_trans Z19 (Keep.of_wr W20).1
  have K20 : Keep h0 h20 [sx] := K19.wr W20 (Or.inl (List.mem_of_getElem? (i := 0) rfl))
  refine own_go (A := oW p e below T20 (oF_init m 82 (oR sx) (oR pl) [(.ref sx), (.ref sx)])) (fun t k => by
    refine XS.aloadN X20.here hx rfl (hb hby o721_80) rfl rfl ?_
    show oW p e below T20 (oF_init m 81 (oR sx) (oR pl) [(.ref sx)]) _
    refine XS.aloadN X20.here hx rfl (hb hby o721_81) rfl rfl ?_
    exact k) ?_
  obtain ⟨T21, X21, e21, st21⟩ := getF X20 hx hZ hown (host := "") (Or.inl ow25) Via.refl e20 f20_4 (g := (oF_init m 82 (oR sx) (oR pl) [(.ref sx), (.ref sx)])) rfl rfl (hb hby o721_82)
  refine own_go st21 ?_
  obtain ⟨T22, h22, k22, X22, e22, E22, A22, st22⟩ := newP X21 hx hZ (aty := .double) ow4 e21 (g := (oF_init m 85 (oR sx) (oR pl) [(.int 2), (.ref sx)])) rfl (hb hby o721_85) rfl (by decide) (cap := 2) (by decide) (by decide) (by decide) (by decide)
  obtain ⟨b22, g22⟩ : ∃ z, z = h20.size := ⟨_, rfl⟩
  rw [← g22] at A22 st22
  refine own_go st22 ?_
  have ne_sx_b22 : sx ≠ b22 := Nat.ne_of_lt (Nat.lt_of_lt_of_le f20_0.lt (Nat.le_of_eq g22.symm))
  have ne_pl_b22 : pl ≠ b22 := Nat.ne_of_lt (Nat.lt_of_lt_of_le f20_13.lt (Nat.le_of_eq g22.symm))
  have ne_b2_b22 : b2 ≠ b22 := Nat.ne_of_lt (Nat.lt_of_lt_of_le f20_15.lt (Nat.le_of_eq g22.symm))
  have ne_b4_b22 : b4 ≠ b22 := Nat.ne_of_lt (Nat.lt_of_lt_of_le f20_16.lt (Nat.le_of_eq g22.symm))
  have ne_b8_b22 : b8 ≠ b22 := Nat.ne_of_lt (Nat.lt_of_lt_of_le f20_17.lt (Nat.le_of_eq g22.symm))
  have ne_b11_b22 : b11 ≠ b22 := Nat.ne_of_lt (Nat.lt_of_lt_of_le f20_18.lt (Nat.le_of_eq g22.symm))
  have ne_b15_b22 : b15 ≠ b22 := Nat.ne_of_lt (Nat.lt_of_lt_of_le f20_20.lt (Nat.le_of_eq g22.symm))
  have ne_b19_b22 : b19 ≠ b22 := Nat.ne_of_lt (Nat.lt_of_lt_of_le f20_21.lt (Nat.le_of_eq g22.symm))
  have ne_b19_0_b22 : b19_0 ≠ b22 := Nat.ne_of_lt (Nat.lt_of_lt_of_le f20_22.lt (Nat.le_of_eq g22.symm))
  have ne_b19_1_b22 : b19_1 ≠ b22 := Nat.ne_of_lt (Nat.lt_of_lt_of_le f20_24.lt (Nat.le_of_eq g22.symm))
  have g_b22 : n0 ≤ b22 := Nat.le_trans Z20 (Nat.le_of_eq g22.symm)
  have Z22 : n0 ≤ h22.size := Nat.le_trans Z20 E22.1
  have sz_b22 : h0.size ≤ b22 := Nat.le_trans K20.1 (Nat.le_of_eq g22.symm)
  have K22 : Keep h0 h22 [sx] := K20.ext E22
  have U22 : Arv Z h22 b22 k22 .double (2 : Int32) [] (.double 0) := Arv.new A22 (by decide)
  have V22 : Arv Z h22 b22 k22 .double (2 : Int32) [(.double 0), (.double 0)] (.double 0) := U22.pad (pad_rep [] (.double 0) 2)
  obtain ⟨T23, h23, X23, e23, W23, st23⟩ := putF X22 hx hZ hown (host := "") (Or.inl ow42) Via.refl e22 (f20_8.ext E22) (f20_0.ext E22) (Or.inr ⟨ow43, rfl, hnm⟩) ow6 (ty := (.array .double)) (by decide) rfl rfl (g := (oF_init m 87 (oR sx) (oR pl) [(.ref b22), (.ref sx)])) rfl rfl (hb hby o721_87)
  refine own_go st23 ?_
  have f23_0 : Exa Z h23 sx "com/example/composure/composure/select/Simplex" := (f20_0.ext E22).wr W23
  have f23_1 : Fld Z h23 sx "com/example/composure/composure/select/Simplex" "columns" "[[D" (.ref b2) := (f20_1.ext E22).other W23 (Or.inr (slot_ne (Or.inl ow17) (Or.inr ow43) (by decide) (t := (.array (.array .double))) (t' := (.array .double)) (by decide) (by decide)))
  have f23_2 : Fld Z h23 sx "com/example/composure/composure/select/Simplex" "costs" "[D" (.ref b4) := (f20_2.ext E22).other W23 (Or.inr (slot_ne (Or.inl ow19) (Or.inr ow43) (by decide) (t := (.array .double)) (t' := (.array .double)) (by decide) (by decide)))
  have f23_3 : Fld Z h23 sx "com/example/composure/composure/select/Simplex" "basic" "[Z" (.ref b8) := (f20_3.ext E22).other W23 (Or.inr (slot_ne (Or.inl ow24) (Or.inr ow43) (by decide) (t := (.array .boolean)) (t' := (.array .double)) (by decide) (by decide)))
  have f23_4 : Fld Z h23 sx "com/example/composure/composure/select/Simplex" "rows" "I" (.int 2) := (f20_4.ext E22).other W23 (Or.inr (slot_ne (Or.inr ow26) (Or.inr ow43) (by decide) (t := .int) (t' := (.array .double)) (by decide) (by decide)))
  have f23_5 : Fld Z h23 sx "com/example/composure/composure/select/Simplex" "limits" "[D" (.ref b11) := (f20_5.ext E22).other W23 (Or.inr (slot_ne (Or.inr ow36) (Or.inr ow43) (by decide) (t := (.array .double)) (t' := (.array .double)) (by decide) (by decide)))
  have f23_6 : Fld Z h23 sx "com/example/composure/composure/select/Simplex" "basis" "[I" (.ref b15) := (f20_6.ext E22).other W23 (Or.inr (slot_ne (Or.inr ow38) (Or.inr ow43) (by decide) (t := (.array .int)) (t' := (.array .double)) (by decide) (by decide)))
  have f23_7 : Fld Z h23 sx "com/example/composure/composure/select/Simplex" "inverse" "[[D" (.ref b19) := (f20_7.ext E22).other W23 (Or.inr (slot_ne (Or.inr ow41) (Or.inr ow43) (by decide) (t := (.array (.array .double))) (t' := (.array .double)) (by decide) (by decide)))
  have f23_8 : Fld Z h23 sx "com/example/composure/composure/select/Simplex" "values" "[D" (.ref b22) := (f20_8.ext E22).same W23
  have f23_9 : Fld Z h23 sx "com/example/composure/composure/select/Simplex" "elimination" "[[D" .null := (f20_9.ext E22).other W23 (Or.inr (slot_ne (Or.inr ow45) (Or.inr ow43) (by decide) (t := (.array (.array .double))) (t' := (.array .double)) (by decide) (by decide)))
  have f23_10 : Fld Z h23 sx "com/example/composure/composure/select/Simplex" "prices" "[D" .null := (f20_10.ext E22).other W23 (Or.inr (slot_ne (Or.inr ow47) (Or.inr ow43) (by decide) (t := (.array .double)) (t' := (.array .double)) (by decide) (by decide)))
  have f23_11 : Fld Z h23 sx "com/example/composure/composure/select/Simplex" "direction" "[D" .null := (f20_11.ext E22).other W23 (Or.inr (slot_ne (Or.inr ow49) (Or.inr ow43) (by decide) (t := (.array .double)) (t' := (.array .double)) (by decide) (by decide)))
  have f23_12 : Fld Z h23 sx "com/example/composure/composure/select/Simplex" "count" "I" (.int 0) := (f20_12.ext E22).other W23 (Or.inr (slot_ne (Or.inl ow60) (Or.inr ow43) (by decide) (t := .int) (t' := (.array .double)) (by decide) (by decide)))
  have f23_13 : Arv Z h23 pl kpl .double (2 : Int32) [(.double dl), (.double dm)] (.double 0) := (f20_13.ext E22).other W23 ((Ne.symm hne))
  have f23_14 : Exa Z h23 pl "[D" := (f20_14.ext E22).wr W23
  have f23_15 : Arv Z h23 b2 k2 (.array .double) (16 : Int32) [.null, .null, .null, .null, .null, .null, .null, .null, .null, .null, .null, .null, .null, .null, .null, .null] .null := (f20_15.ext E22).other W23 ((Ne.symm ne_sx_b2))
  have f23_16 : Arv Z h23 b4 k4 .double (16 : Int32) [(.double 0), (.double 0), (.double 0), (.double 0), (.double 0), (.double 0), (.double 0), (.double 0), (.double 0), (.double 0), (.double 0), (.double 0), (.double 0), (.double 0), (.double 0), (.double 0)] (.double 0) := (f20_16.ext E22).other W23 ((Ne.symm ne_sx_b4))
  have f23_17 : Arv Z h23 b8 k8 .boolean (16 : Int32) [(.int 0), (.int 0), (.int 0), (.int 0), (.int 0), (.int 0), (.int 0), (.int 0), (.int 0), (.int 0), (.int 0), (.int 0), (.int 0), (.int 0), (.int 0), (.int 0)] (.int 0) := (f20_17.ext E22).other W23 ((Ne.symm ne_sx_b8))
  have f23_18 : Arv Z h23 b11 kpl .double (2 : Int32) [(.double dl), (.double dm)] (.double 0) := (f20_18.ext E22).other W23 ((Ne.symm ne_sx_b11))
  have f23_19 : Exa Z h23 b11 "[D" := (f20_19.ext E22).wr W23
  have f23_20 : Arv Z h23 b15 k15 .int (2 : Int32) [(.int 0), (.int 0)] (.int 0) := (f20_20.ext E22).other W23 ((Ne.symm ne_sx_b15))
  have f23_21 : Arv Z h23 b19 k19 (.array .double) (2 : Int32) [(.ref b19_0), (.ref b19_1)] .null := (f20_21.ext E22).other W23 ((Ne.symm ne_sx_b19))
  have f23_22 : Arv Z h23 b19_0 j19 .double (2 : Int32) [(.double 0), (.double 0)] (.double 0) := (f20_22.ext E22).other W23 ((Ne.symm ne_sx_b19_0))
  have f23_23 : Arv Z h23 b19_1 j19 .double (2 : Int32) [(.double 0), (.double 0)] (.double 0) := (f20_24.ext E22).other W23 ((Ne.symm ne_sx_b19_1))
  have f23_24 : Arv Z h23 b22 k22 .double (2 : Int32) [(.double 0), (.double 0)] (.double 0) := V22.other W23 ((Ne.symm ne_sx_b22))
  have N23 := Fr.snoc X23 N20 g_sx
  have Z23 : n0 ≤ h23.size := Nat.le_trans Z22 (Keep.of_wr W23).1
  have K23 : Keep h0 h23 [sx] := K22.wr W23 (Or.inl (List.mem_of_getElem? (i := 0) rfl))
  refine own_go (A := oW p e below T23 (oF_init m 92 (oR sx) (oR pl) [(.ref sx), (.ref sx)])) (fun t k => by
    refine XS.aloadN X23.here hx rfl (hb hby o721_90) rfl rfl ?_
    refine XS.aloadN X23.here hx rfl (hb hby o721_91) rfl rfl ?_
    exact k) ?_
  obtain ⟨T24, X24, e24, st24⟩ := getF X23 hx hZ hown (host := "") (Or.inl ow25) Via.refl e23 f23_4 (g := (oF_init m 92 (oR sx) (oR pl) [(.ref sx), (.ref sx)])) rfl rfl (hb hby o721_92)
  refine own_go st24 ?_
  refine own_go (A := oW p e below T24 (oF_init m 97 (oR sx) (oR pl) [(.ref sx), (.int 2), (.int 2), (.ref sx)])) (fun t k => by
    refine XS.iconst X24.here hx rfl (hb hby o721_95) ?_
    show oW p e below T24 (oF_init m 96 (oR sx) (oR pl) [(.int 2), (.int 2), (.ref sx)]) _
    refine XS.aloadN X24.here hx rfl (hb hby o721_96) rfl rfl ?_
    exact k) ?_
  obtain ⟨T25, X25, e25, st25⟩ := getF X24 hx hZ hown (host := "") (Or.inl ow25) Via.refl e24 f23_4 (g := (oF_init m 97 (oR sx) (oR pl) [(.ref sx), (.int 2), (.int 2), (.ref sx)])) rfl rfl (hb hby o721_97)
  refine own_go st25 ?_
  refine own_go (A := oW p e below T25 (oF_init m 101 (oR sx) (oR pl) [(.int 4), (.int 2), (.ref sx)])) (fun t k => by
    refine XS.imul X25.here hx rfl (hb hby o721_100) rfl ?_
    exact k) ?_
  obtain ⟨T26, h26, k26, j26, X26, e26, E26, A26, O26, -, R26, st26⟩ := gridM X25 hx hZ hown (ty := .double) (C := "[D") (ad := "[[D") (by decide) (by decide) ow39 ow15 ow4 e25 (g := (oF_init m 101 (oR sx) (oR pl) [(.int 4), (.int 2), (.ref sx)])) rfl (hb hby o721_101) rfl (by decide) (by decide) (xs := [h23.size + 1 + 0, h23.size + 1 + 1]) (N := 2) (by decide) rfl (cap := 4) (by decide) (by decide) (by decide) (by decide) (by decide) (by decide) (by decide)
  have V26 : Arv Z h26 h23.size k26 (.array .double) (2 : Int32) [(.ref (h23.size + 1 + 0)), (.ref (h23.size + 1 + 1))] .null := A26
  obtain ⟨B26_0, Q26_0⟩ := R26 0 (h23.size + 1 + 0) rfl
  have U26_0 : Arv Z h26 (h23.size + 1 + 0) j26 .double (4 : Int32) [] (.double 0) := Arv.new B26_0 (by decide)
  have V26_0 : Arv Z h26 (h23.size + 1 + 0) j26 .double (4 : Int32) [(.double 0), (.double 0), (.double 0), (.double 0)] (.double 0) := U26_0.pad (pad_rep [] (.double 0) 4)
  obtain ⟨B26_1, Q26_1⟩ := R26 1 (h23.size + 1 + 1) rfl
  have U26_1 : Arv Z h26 (h23.size + 1 + 1) j26 .double (4 : Int32) [] (.double 0) := Arv.new B26_1 (by decide)
  have V26_1 : Arv Z h26 (h23.size + 1 + 1) j26 .double (4 : Int32) [(.double 0), (.double 0), (.double 0), (.double 0)] (.double 0) := U26_1.pad (pad_rep [] (.double 0) 4)
  obtain ⟨b26_0, g26_0⟩ : ∃ z, z = h23.size + 1 + 0 := ⟨_, rfl⟩
  obtain ⟨b26_1, g26_1⟩ : ∃ z, z = h23.size + 1 + 1 := ⟨_, rfl⟩
  rw [← g26_1, ← g26_0] at V26
  rw [← g26_0] at V26_0
  rw [← g26_1] at V26_1
  obtain ⟨b26, g26⟩ : ∃ z, z = h23.size := ⟨_, rfl⟩
  rw [← g26] at V26 st26
  clear A26
  refine own_go st26 ?_
  have l26_0 : h23.size ≤ b26_0 := by omega
  have l26_1 : h23.size ≤ b26_1 := by omega
  have ne_sx_b26 : sx ≠ b26 := Nat.ne_of_lt (Nat.lt_of_lt_of_le f23_0.lt (Nat.le_of_eq g26.symm))
  have ne_pl_b26 : pl ≠ b26 := Nat.ne_of_lt (Nat.lt_of_lt_of_le f23_13.lt (Nat.le_of_eq g26.symm))
  have ne_b2_b26 : b2 ≠ b26 := Nat.ne_of_lt (Nat.lt_of_lt_of_le f23_15.lt (Nat.le_of_eq g26.symm))
  have ne_b4_b26 : b4 ≠ b26 := Nat.ne_of_lt (Nat.lt_of_lt_of_le f23_16.lt (Nat.le_of_eq g26.symm))
  have ne_b8_b26 : b8 ≠ b26 := Nat.ne_of_lt (Nat.lt_of_lt_of_le f23_17.lt (Nat.le_of_eq g26.symm))
  have ne_b11_b26 : b11 ≠ b26 := Nat.ne_of_lt (Nat.lt_of_lt_of_le f23_18.lt (Nat.le_of_eq g26.symm))
  have ne_b15_b26 : b15 ≠ b26 := Nat.ne_of_lt (Nat.lt_of_lt_of_le f23_20.lt (Nat.le_of_eq g26.symm))
  have ne_b19_b26 : b19 ≠ b26 := Nat.ne_of_lt (Nat.lt_of_lt_of_le f23_21.lt (Nat.le_of_eq g26.symm))
  have ne_b19_0_b26 : b19_0 ≠ b26 := Nat.ne_of_lt (Nat.lt_of_lt_of_le f23_22.lt (Nat.le_of_eq g26.symm))
  have ne_b19_1_b26 : b19_1 ≠ b26 := Nat.ne_of_lt (Nat.lt_of_lt_of_le f23_23.lt (Nat.le_of_eq g26.symm))
  have ne_b22_b26 : b22 ≠ b26 := Nat.ne_of_lt (Nat.lt_of_lt_of_le f23_24.lt (Nat.le_of_eq g26.symm))
  have ne_sx_b26_0 : sx ≠ b26_0 := Nat.ne_of_lt (Nat.lt_of_lt_of_le f23_0.lt l26_0)
  have ne_pl_b26_0 : pl ≠ b26_0 := Nat.ne_of_lt (Nat.lt_of_lt_of_le f23_13.lt l26_0)
  have ne_b2_b26_0 : b2 ≠ b26_0 := Nat.ne_of_lt (Nat.lt_of_lt_of_le f23_15.lt l26_0)
  have ne_b4_b26_0 : b4 ≠ b26_0 := Nat.ne_of_lt (Nat.lt_of_lt_of_le f23_16.lt l26_0)
  have ne_b8_b26_0 : b8 ≠ b26_0 := Nat.ne_of_lt (Nat.lt_of_lt_of_le f23_17.lt l26_0)
  have ne_b11_b26_0 : b11 ≠ b26_0 := Nat.ne_of_lt (Nat.lt_of_lt_of_le f23_18.lt l26_0)
  have ne_b15_b26_0 : b15 ≠ b26_0 := Nat.ne_of_lt (Nat.lt_of_lt_of_le f23_20.lt l26_0)
  have ne_b19_b26_0 : b19 ≠ b26_0 := Nat.ne_of_lt (Nat.lt_of_lt_of_le f23_21.lt l26_0)
  have ne_b19_0_b26_0 : b19_0 ≠ b26_0 := Nat.ne_of_lt (Nat.lt_of_lt_of_le f23_22.lt l26_0)
  have ne_b19_1_b26_0 : b19_1 ≠ b26_0 := Nat.ne_of_lt (Nat.lt_of_lt_of_le f23_23.lt l26_0)
  have ne_b22_b26_0 : b22 ≠ b26_0 := Nat.ne_of_lt (Nat.lt_of_lt_of_le f23_24.lt l26_0)
  have ne_b26_b26_0 : b26 ≠ b26_0 := Nat.ne_of_lt (by omega)
  have ne_sx_b26_1 : sx ≠ b26_1 := Nat.ne_of_lt (Nat.lt_of_lt_of_le f23_0.lt l26_1)
  have ne_pl_b26_1 : pl ≠ b26_1 := Nat.ne_of_lt (Nat.lt_of_lt_of_le f23_13.lt l26_1)
  have ne_b2_b26_1 : b2 ≠ b26_1 := Nat.ne_of_lt (Nat.lt_of_lt_of_le f23_15.lt l26_1)
  have ne_b4_b26_1 : b4 ≠ b26_1 := Nat.ne_of_lt (Nat.lt_of_lt_of_le f23_16.lt l26_1)
  have ne_b8_b26_1 : b8 ≠ b26_1 := Nat.ne_of_lt (Nat.lt_of_lt_of_le f23_17.lt l26_1)
  have ne_b11_b26_1 : b11 ≠ b26_1 := Nat.ne_of_lt (Nat.lt_of_lt_of_le f23_18.lt l26_1)
  have ne_b15_b26_1 : b15 ≠ b26_1 := Nat.ne_of_lt (Nat.lt_of_lt_of_le f23_20.lt l26_1)
  have ne_b19_b26_1 : b19 ≠ b26_1 := Nat.ne_of_lt (Nat.lt_of_lt_of_le f23_21.lt l26_1)
  have ne_b19_0_b26_1 : b19_0 ≠ b26_1 := Nat.ne_of_lt (Nat.lt_of_lt_of_le f23_22.lt l26_1)
  have ne_b19_1_b26_1 : b19_1 ≠ b26_1 := Nat.ne_of_lt (Nat.lt_of_lt_of_le f23_23.lt l26_1)
  have ne_b22_b26_1 : b22 ≠ b26_1 := Nat.ne_of_lt (Nat.lt_of_lt_of_le f23_24.lt l26_1)
  have ne_b26_b26_1 : b26 ≠ b26_1 := Nat.ne_of_lt (by omega)
  have ne_b26_0_b26_1 : b26_0 ≠ b26_1 := Nat.ne_of_lt (by omega)
  have g_b26 : n0 ≤ b26 := Nat.le_trans Z23 (Nat.le_of_eq g26.symm)
  have Z26 : n0 ≤ h26.size := Nat.le_trans Z23 E26.1
  have sz_b26 : h0.size ≤ b26 := Nat.le_trans K23.1 (Nat.le_of_eq g26.symm)
  have K26 : Keep h0 h26 [sx] := K23.ext E26
  have g_b26_0 : n0 ≤ b26_0 := Nat.le_trans Z23 l26_0
  have sz_b26_0 : h0.size ≤ b26_0 := Nat.le_trans K23.1 l26_0
  have g_b26_1 : n0 ≤ b26_1 := Nat.le_trans Z23 l26_1
  have sz_b26_1 : h0.size ≤ b26_1 := Nat.le_trans K23.1 l26_1
  obtain ⟨T27, h27, X27, e27, W27, st27⟩ := putF X26 hx hZ hown (host := "") (Or.inl ow44) Via.refl e26 (f23_9.ext E26) (f23_0.ext E26) (Or.inr ⟨ow45, rfl, hnm⟩) ow6 (ty := (.array (.array .double))) (by decide) rfl rfl (g := (oF_init m 105 (oR sx) (oR pl) [(.ref b26), (.ref sx)])) rfl rfl (hb hby o721_105)
  refine own_go st27 ?_
  have f27_0 : Exa Z h27 sx "com/example/composure/composure/select/Simplex" := (f23_0.ext E26).wr W27
  have f27_1 : Fld Z h27 sx "com/example/composure/composure/select/Simplex" "columns" "[[D" (.ref b2) := (f23_1.ext E26).other W27 (Or.inr (slot_ne (Or.inl ow17) (Or.inr ow45) (by decide) (t := (.array (.array .double))) (t' := (.array (.array .double))) (by decide) (by decide)))
  have f27_2 : Fld Z h27 sx "com/example/composure/composure/select/Simplex" "costs" "[D" (.ref b4) := (f23_2.ext E26).other W27 (Or.inr (slot_ne (Or.inl ow19) (Or.inr ow45) (by decide) (t := (.array .double)) (t' := (.array (.array .double))) (by decide) (by decide)))
  have f27_3 : Fld Z h27 sx "com/example/composure/composure/select/Simplex" "basic" "[Z" (.ref b8) := (f23_3.ext E26).other W27 (Or.inr (slot_ne (Or.inl ow24) (Or.inr ow45) (by decide) (t := (.array .boolean)) (t' := (.array (.array .double))) (by decide) (by decide)))
  have f27_4 : Fld Z h27 sx "com/example/composure/composure/select/Simplex" "rows" "I" (.int 2) := (f23_4.ext E26).other W27 (Or.inr (slot_ne (Or.inr ow26) (Or.inr ow45) (by decide) (t := .int) (t' := (.array (.array .double))) (by decide) (by decide)))
  have f27_5 : Fld Z h27 sx "com/example/composure/composure/select/Simplex" "limits" "[D" (.ref b11) := (f23_5.ext E26).other W27 (Or.inr (slot_ne (Or.inr ow36) (Or.inr ow45) (by decide) (t := (.array .double)) (t' := (.array (.array .double))) (by decide) (by decide)))
  have f27_6 : Fld Z h27 sx "com/example/composure/composure/select/Simplex" "basis" "[I" (.ref b15) := (f23_6.ext E26).other W27 (Or.inr (slot_ne (Or.inr ow38) (Or.inr ow45) (by decide) (t := (.array .int)) (t' := (.array (.array .double))) (by decide) (by decide)))
  have f27_7 : Fld Z h27 sx "com/example/composure/composure/select/Simplex" "inverse" "[[D" (.ref b19) := (f23_7.ext E26).other W27 (Or.inr (slot_ne (Or.inr ow41) (Or.inr ow45) (by decide) (t := (.array (.array .double))) (t' := (.array (.array .double))) (by decide) (by decide)))
  have f27_8 : Fld Z h27 sx "com/example/composure/composure/select/Simplex" "values" "[D" (.ref b22) := (f23_8.ext E26).other W27 (Or.inr (slot_ne (Or.inr ow43) (Or.inr ow45) (by decide) (t := (.array .double)) (t' := (.array (.array .double))) (by decide) (by decide)))
  have f27_9 : Fld Z h27 sx "com/example/composure/composure/select/Simplex" "elimination" "[[D" (.ref b26) := (f23_9.ext E26).same W27
  have f27_10 : Fld Z h27 sx "com/example/composure/composure/select/Simplex" "prices" "[D" .null := (f23_10.ext E26).other W27 (Or.inr (slot_ne (Or.inr ow47) (Or.inr ow45) (by decide) (t := (.array .double)) (t' := (.array (.array .double))) (by decide) (by decide)))
  have f27_11 : Fld Z h27 sx "com/example/composure/composure/select/Simplex" "direction" "[D" .null := (f23_11.ext E26).other W27 (Or.inr (slot_ne (Or.inr ow49) (Or.inr ow45) (by decide) (t := (.array .double)) (t' := (.array (.array .double))) (by decide) (by decide)))
  have f27_12 : Fld Z h27 sx "com/example/composure/composure/select/Simplex" "count" "I" (.int 0) := (f23_12.ext E26).other W27 (Or.inr (slot_ne (Or.inl ow60) (Or.inr ow45) (by decide) (t := .int) (t' := (.array (.array .double))) (by decide) (by decide)))
  have f27_13 : Arv Z h27 pl kpl .double (2 : Int32) [(.double dl), (.double dm)] (.double 0) := (f23_13.ext E26).other W27 ((Ne.symm hne))
  have f27_14 : Exa Z h27 pl "[D" := (f23_14.ext E26).wr W27
  have f27_15 : Arv Z h27 b2 k2 (.array .double) (16 : Int32) [.null, .null, .null, .null, .null, .null, .null, .null, .null, .null, .null, .null, .null, .null, .null, .null] .null := (f23_15.ext E26).other W27 ((Ne.symm ne_sx_b2))
  have f27_16 : Arv Z h27 b4 k4 .double (16 : Int32) [(.double 0), (.double 0), (.double 0), (.double 0), (.double 0), (.double 0), (.double 0), (.double 0), (.double 0), (.double 0), (.double 0), (.double 0), (.double 0), (.double 0), (.double 0), (.double 0)] (.double 0) := (f23_16.ext E26).other W27 ((Ne.symm ne_sx_b4))
  have f27_17 : Arv Z h27 b8 k8 .boolean (16 : Int32) [(.int 0), (.int 0), (.int 0), (.int 0), (.int 0), (.int 0), (.int 0), (.int 0), (.int 0), (.int 0), (.int 0), (.int 0), (.int 0), (.int 0), (.int 0), (.int 0)] (.int 0) := (f23_17.ext E26).other W27 ((Ne.symm ne_sx_b8))
  have f27_18 : Arv Z h27 b11 kpl .double (2 : Int32) [(.double dl), (.double dm)] (.double 0) := (f23_18.ext E26).other W27 ((Ne.symm ne_sx_b11))
  have f27_19 : Exa Z h27 b11 "[D" := (f23_19.ext E26).wr W27
  have f27_20 : Arv Z h27 b15 k15 .int (2 : Int32) [(.int 0), (.int 0)] (.int 0) := (f23_20.ext E26).other W27 ((Ne.symm ne_sx_b15))
  have f27_21 : Arv Z h27 b19 k19 (.array .double) (2 : Int32) [(.ref b19_0), (.ref b19_1)] .null := (f23_21.ext E26).other W27 ((Ne.symm ne_sx_b19))
  have f27_22 : Arv Z h27 b19_0 j19 .double (2 : Int32) [(.double 0), (.double 0)] (.double 0) := (f23_22.ext E26).other W27 ((Ne.symm ne_sx_b19_0))
  have f27_23 : Arv Z h27 b19_1 j19 .double (2 : Int32) [(.double 0), (.double 0)] (.double 0) := (f23_23.ext E26).other W27 ((Ne.symm ne_sx_b19_1))
  have f27_24 : Arv Z h27 b22 k22 .double (2 : Int32) [(.double 0), (.double 0)] (.double 0) := (f23_24.ext E26).other W27 ((Ne.symm ne_sx_b22))
  have f27_25 : Arv Z h27 b26 k26 (.array .double) (2 : Int32) [(.ref b26_0), (.ref b26_1)] .null := V26.other W27 ((Ne.symm ne_sx_b26))
  have f27_26 : Arv Z h27 b26_0 j26 .double (4 : Int32) [(.double 0), (.double 0), (.double 0), (.double 0)] (.double 0) := V26_0.other W27 ((Ne.symm ne_sx_b26_0))
  have f27_27 : Exa Z h27 b26_0 "[D" := (g26_0 ▸ Q26_0).wr W27
  have f27_28 : Arv Z h27 b26_1 j26 .double (4 : Int32) [(.double 0), (.double 0), (.double 0), (.double 0)] (.double 0) := V26_1.other W27 ((Ne.symm ne_sx_b26_1))
  have f27_29 : Exa Z h27 b26_1 "[D" := (g26_1 ▸ Q26_1).wr W27
  have N27 := Fr.snoc X27 N23 g_sx
  have Z27 : n0 ≤ h27.size := Nat.le_trans Z26 (Keep.of_wr W27).1
  have K27 : Keep h0 h27 [sx] := K26.wr W27 (Or.inl (List.mem_of_getElem? (i := 0) rfl))
  refine own_go (A := oW p e below T27 (oF_init m 110 (oR sx) (oR pl) [(.ref sx), (.ref sx)])) (fun t k => by
    refine XS.aloadN X27.here hx rfl (hb hby o721_108) rfl rfl ?_
    refine XS.aloadN X27.here hx rfl (hb hby o721_109) rfl rfl ?_
    exact k) ?_
  obtain ⟨T28, X28, e28, st28⟩ := getF X27 hx hZ hown (host := "") (Or.inl ow25) Via.refl e27 f27_4 (g := (oF_init m 110 (oR sx) (oR pl) [(.ref sx), (.ref sx)])) rfl rfl (hb hby o721_110)
  refine own_go st28 ?_
  obtain ⟨T29, h29, k29, X29, e29, E29, A29, st29⟩ := newP X28 hx hZ (aty := .double) ow4 e28 (g := (oF_init m 113 (oR sx) (oR pl) [(.int 2), (.ref sx)])) rfl (hb hby o721_113) rfl (by decide) (cap := 2) (by decide) (by decide) (by decide) (by decide)
  obtain ⟨b29, g29⟩ : ∃ z, z = h27.size := ⟨_, rfl⟩
  rw [← g29] at A29 st29
  refine own_go st29 ?_
  have ne_sx_b29 : sx ≠ b29 := Nat.ne_of_lt (Nat.lt_of_lt_of_le f27_0.lt (Nat.le_of_eq g29.symm))
  have ne_pl_b29 : pl ≠ b29 := Nat.ne_of_lt (Nat.lt_of_lt_of_le f27_13.lt (Nat.le_of_eq g29.symm))
  have ne_b2_b29 : b2 ≠ b29 := Nat.ne_of_lt (Nat.lt_of_lt_of_le f27_15.lt (Nat.le_of_eq g29.symm))
  have ne_b4_b29 : b4 ≠ b29 := Nat.ne_of_lt (Nat.lt_of_lt_of_le f27_16.lt (Nat.le_of_eq g29.symm))
  have ne_b8_b29 : b8 ≠ b29 := Nat.ne_of_lt (Nat.lt_of_lt_of_le f27_17.lt (Nat.le_of_eq g29.symm))
  have ne_b11_b29 : b11 ≠ b29 := Nat.ne_of_lt (Nat.lt_of_lt_of_le f27_18.lt (Nat.le_of_eq g29.symm))
  have ne_b15_b29 : b15 ≠ b29 := Nat.ne_of_lt (Nat.lt_of_lt_of_le f27_20.lt (Nat.le_of_eq g29.symm))
  have ne_b19_b29 : b19 ≠ b29 := Nat.ne_of_lt (Nat.lt_of_lt_of_le f27_21.lt (Nat.le_of_eq g29.symm))
  have ne_b19_0_b29 : b19_0 ≠ b29 := Nat.ne_of_lt (Nat.lt_of_lt_of_le f27_22.lt (Nat.le_of_eq g29.symm))
  have ne_b19_1_b29 : b19_1 ≠ b29 := Nat.ne_of_lt (Nat.lt_of_lt_of_le f27_23.lt (Nat.le_of_eq g29.symm))
  have ne_b22_b29 : b22 ≠ b29 := Nat.ne_of_lt (Nat.lt_of_lt_of_le f27_24.lt (Nat.le_of_eq g29.symm))
  have ne_b26_b29 : b26 ≠ b29 := Nat.ne_of_lt (Nat.lt_of_lt_of_le f27_25.lt (Nat.le_of_eq g29.symm))
  have ne_b26_0_b29 : b26_0 ≠ b29 := Nat.ne_of_lt (Nat.lt_of_lt_of_le f27_26.lt (Nat.le_of_eq g29.symm))
  have ne_b26_1_b29 : b26_1 ≠ b29 := Nat.ne_of_lt (Nat.lt_of_lt_of_le f27_28.lt (Nat.le_of_eq g29.symm))
  have g_b29 : n0 ≤ b29 := Nat.le_trans Z27 (Nat.le_of_eq g29.symm)
  have Z29 : n0 ≤ h29.size := Nat.le_trans Z27 E29.1
  have sz_b29 : h0.size ≤ b29 := Nat.le_trans K27.1 (Nat.le_of_eq g29.symm)
  have K29 : Keep h0 h29 [sx] := K27.ext E29
  have U29 : Arv Z h29 b29 k29 .double (2 : Int32) [] (.double 0) := Arv.new A29 (by decide)
  have V29 : Arv Z h29 b29 k29 .double (2 : Int32) [(.double 0), (.double 0)] (.double 0) := U29.pad (pad_rep [] (.double 0) 2)
  obtain ⟨T30, h30, X30, e30, W30, st30⟩ := putF X29 hx hZ hown (host := "") (Or.inl ow46) Via.refl e29 (f27_10.ext E29) (f27_0.ext E29) (Or.inr ⟨ow47, rfl, hnm⟩) ow6 (ty := (.array .double)) (by decide) rfl rfl (g := (oF_init m 115 (oR sx) (oR pl) [(.ref b29), (.ref sx)])) rfl rfl (hb hby o721_115)
  refine own_go st30 ?_
  have f30_0 : Exa Z h30 sx "com/example/composure/composure/select/Simplex" := (f27_0.ext E29).wr W30
  have f30_1 : Fld Z h30 sx "com/example/composure/composure/select/Simplex" "columns" "[[D" (.ref b2) := (f27_1.ext E29).other W30 (Or.inr (slot_ne (Or.inl ow17) (Or.inr ow47) (by decide) (t := (.array (.array .double))) (t' := (.array .double)) (by decide) (by decide)))
  have f30_2 : Fld Z h30 sx "com/example/composure/composure/select/Simplex" "costs" "[D" (.ref b4) := (f27_2.ext E29).other W30 (Or.inr (slot_ne (Or.inl ow19) (Or.inr ow47) (by decide) (t := (.array .double)) (t' := (.array .double)) (by decide) (by decide)))
  have f30_3 : Fld Z h30 sx "com/example/composure/composure/select/Simplex" "basic" "[Z" (.ref b8) := (f27_3.ext E29).other W30 (Or.inr (slot_ne (Or.inl ow24) (Or.inr ow47) (by decide) (t := (.array .boolean)) (t' := (.array .double)) (by decide) (by decide)))
  have f30_4 : Fld Z h30 sx "com/example/composure/composure/select/Simplex" "rows" "I" (.int 2) := (f27_4.ext E29).other W30 (Or.inr (slot_ne (Or.inr ow26) (Or.inr ow47) (by decide) (t := .int) (t' := (.array .double)) (by decide) (by decide)))
  have f30_5 : Fld Z h30 sx "com/example/composure/composure/select/Simplex" "limits" "[D" (.ref b11) := (f27_5.ext E29).other W30 (Or.inr (slot_ne (Or.inr ow36) (Or.inr ow47) (by decide) (t := (.array .double)) (t' := (.array .double)) (by decide) (by decide)))
  have f30_6 : Fld Z h30 sx "com/example/composure/composure/select/Simplex" "basis" "[I" (.ref b15) := (f27_6.ext E29).other W30 (Or.inr (slot_ne (Or.inr ow38) (Or.inr ow47) (by decide) (t := (.array .int)) (t' := (.array .double)) (by decide) (by decide)))
  have f30_7 : Fld Z h30 sx "com/example/composure/composure/select/Simplex" "inverse" "[[D" (.ref b19) := (f27_7.ext E29).other W30 (Or.inr (slot_ne (Or.inr ow41) (Or.inr ow47) (by decide) (t := (.array (.array .double))) (t' := (.array .double)) (by decide) (by decide)))
  have f30_8 : Fld Z h30 sx "com/example/composure/composure/select/Simplex" "values" "[D" (.ref b22) := (f27_8.ext E29).other W30 (Or.inr (slot_ne (Or.inr ow43) (Or.inr ow47) (by decide) (t := (.array .double)) (t' := (.array .double)) (by decide) (by decide)))
  have f30_9 : Fld Z h30 sx "com/example/composure/composure/select/Simplex" "elimination" "[[D" (.ref b26) := (f27_9.ext E29).other W30 (Or.inr (slot_ne (Or.inr ow45) (Or.inr ow47) (by decide) (t := (.array (.array .double))) (t' := (.array .double)) (by decide) (by decide)))
  have f30_10 : Fld Z h30 sx "com/example/composure/composure/select/Simplex" "prices" "[D" (.ref b29) := (f27_10.ext E29).same W30
  have f30_11 : Fld Z h30 sx "com/example/composure/composure/select/Simplex" "direction" "[D" .null := (f27_11.ext E29).other W30 (Or.inr (slot_ne (Or.inr ow49) (Or.inr ow47) (by decide) (t := (.array .double)) (t' := (.array .double)) (by decide) (by decide)))
  have f30_12 : Fld Z h30 sx "com/example/composure/composure/select/Simplex" "count" "I" (.int 0) := (f27_12.ext E29).other W30 (Or.inr (slot_ne (Or.inl ow60) (Or.inr ow47) (by decide) (t := .int) (t' := (.array .double)) (by decide) (by decide)))
  have f30_13 : Arv Z h30 pl kpl .double (2 : Int32) [(.double dl), (.double dm)] (.double 0) := (f27_13.ext E29).other W30 ((Ne.symm hne))
  have f30_14 : Exa Z h30 pl "[D" := (f27_14.ext E29).wr W30
  have f30_15 : Arv Z h30 b2 k2 (.array .double) (16 : Int32) [.null, .null, .null, .null, .null, .null, .null, .null, .null, .null, .null, .null, .null, .null, .null, .null] .null := (f27_15.ext E29).other W30 ((Ne.symm ne_sx_b2))
  have f30_16 : Arv Z h30 b4 k4 .double (16 : Int32) [(.double 0), (.double 0), (.double 0), (.double 0), (.double 0), (.double 0), (.double 0), (.double 0), (.double 0), (.double 0), (.double 0), (.double 0), (.double 0), (.double 0), (.double 0), (.double 0)] (.double 0) := (f27_16.ext E29).other W30 ((Ne.symm ne_sx_b4))
  have f30_17 : Arv Z h30 b8 k8 .boolean (16 : Int32) [(.int 0), (.int 0), (.int 0), (.int 0), (.int 0), (.int 0), (.int 0), (.int 0), (.int 0), (.int 0), (.int 0), (.int 0), (.int 0), (.int 0), (.int 0), (.int 0)] (.int 0) := (f27_17.ext E29).other W30 ((Ne.symm ne_sx_b8))
  have f30_18 : Arv Z h30 b11 kpl .double (2 : Int32) [(.double dl), (.double dm)] (.double 0) := (f27_18.ext E29).other W30 ((Ne.symm ne_sx_b11))
  have f30_19 : Exa Z h30 b11 "[D" := (f27_19.ext E29).wr W30
  have f30_20 : Arv Z h30 b15 k15 .int (2 : Int32) [(.int 0), (.int 0)] (.int 0) := (f27_20.ext E29).other W30 ((Ne.symm ne_sx_b15))
  have f30_21 : Arv Z h30 b19 k19 (.array .double) (2 : Int32) [(.ref b19_0), (.ref b19_1)] .null := (f27_21.ext E29).other W30 ((Ne.symm ne_sx_b19))
  have f30_22 : Arv Z h30 b19_0 j19 .double (2 : Int32) [(.double 0), (.double 0)] (.double 0) := (f27_22.ext E29).other W30 ((Ne.symm ne_sx_b19_0))
  have f30_23 : Arv Z h30 b19_1 j19 .double (2 : Int32) [(.double 0), (.double 0)] (.double 0) := (f27_23.ext E29).other W30 ((Ne.symm ne_sx_b19_1))
  have f30_24 : Arv Z h30 b22 k22 .double (2 : Int32) [(.double 0), (.double 0)] (.double 0) := (f27_24.ext E29).other W30 ((Ne.symm ne_sx_b22))
  have f30_25 : Arv Z h30 b26 k26 (.array .double) (2 : Int32) [(.ref b26_0), (.ref b26_1)] .null := (f27_25.ext E29).other W30 ((Ne.symm ne_sx_b26))
  have f30_26 : Arv Z h30 b26_0 j26 .double (4 : Int32) [(.double 0), (.double 0), (.double 0), (.double 0)] (.double 0) := (f27_26.ext E29).other W30 ((Ne.symm ne_sx_b26_0))
  have f30_27 : Exa Z h30 b26_0 "[D" := (f27_27.ext E29).wr W30
  have f30_28 : Arv Z h30 b26_1 j26 .double (4 : Int32) [(.double 0), (.double 0), (.double 0), (.double 0)] (.double 0) := (f27_28.ext E29).other W30 ((Ne.symm ne_sx_b26_1))
  have f30_29 : Exa Z h30 b26_1 "[D" := (f27_29.ext E29).wr W30
  have f30_30 : Arv Z h30 b29 k29 .double (2 : Int32) [(.double 0), (.double 0)] (.double 0) := V29.other W30 ((Ne.symm ne_sx_b29))
  have N30 := Fr.snoc X30 N27 g_sx
  have Z30 : n0 ≤ h30.size := Nat.le_trans Z29 (Keep.of_wr W30).1
  have K30 : Keep h0 h30 [sx] := K29.wr W30 (Or.inl (List.mem_of_getElem? (i := 0) rfl))
  refine own_go (A := oW p e below T30 (oF_init m 120 (oR sx) (oR pl) [(.ref sx), (.ref sx)])) (fun t k => by
    refine XS.aloadN X30.here hx rfl (hb hby o721_118) rfl rfl ?_
    refine XS.aloadN X30.here hx rfl (hb hby o721_119) rfl rfl ?_
    exact k) ?_
  obtain ⟨T31, X31, e31, st31⟩ := getF X30 hx hZ hown (host := "") (Or.inl ow25) Via.refl e30 f30_4 (g := (oF_init m 120 (oR sx) (oR pl) [(.ref sx), (.ref sx)])) rfl rfl (hb hby o721_120)
  refine own_go st31 ?_
  obtain ⟨T32, h32, k32, X32, e32, E32, A32, st32⟩ := newP X31 hx hZ (aty := .double) ow4 e31 (g := (oF_init m 123 (oR sx) (oR pl) [(.int 2), (.ref sx)])) rfl (hb hby o721_123) rfl (by decide) (cap := 2) (by decide) (by decide) (by decide) (by decide)
  obtain ⟨b32, g32⟩ : ∃ z, z = h30.size := ⟨_, rfl⟩
  rw [← g32] at A32 st32
  refine own_go st32 ?_
  have ne_sx_b32 : sx ≠ b32 := Nat.ne_of_lt (Nat.lt_of_lt_of_le f30_0.lt (Nat.le_of_eq g32.symm))
  have ne_pl_b32 : pl ≠ b32 := Nat.ne_of_lt (Nat.lt_of_lt_of_le f30_13.lt (Nat.le_of_eq g32.symm))
  have ne_b2_b32 : b2 ≠ b32 := Nat.ne_of_lt (Nat.lt_of_lt_of_le f30_15.lt (Nat.le_of_eq g32.symm))
  have ne_b4_b32 : b4 ≠ b32 := Nat.ne_of_lt (Nat.lt_of_lt_of_le f30_16.lt (Nat.le_of_eq g32.symm))
  have ne_b8_b32 : b8 ≠ b32 := Nat.ne_of_lt (Nat.lt_of_lt_of_le f30_17.lt (Nat.le_of_eq g32.symm))
  have ne_b11_b32 : b11 ≠ b32 := Nat.ne_of_lt (Nat.lt_of_lt_of_le f30_18.lt (Nat.le_of_eq g32.symm))
  have ne_b15_b32 : b15 ≠ b32 := Nat.ne_of_lt (Nat.lt_of_lt_of_le f30_20.lt (Nat.le_of_eq g32.symm))
  have ne_b19_b32 : b19 ≠ b32 := Nat.ne_of_lt (Nat.lt_of_lt_of_le f30_21.lt (Nat.le_of_eq g32.symm))
  have ne_b19_0_b32 : b19_0 ≠ b32 := Nat.ne_of_lt (Nat.lt_of_lt_of_le f30_22.lt (Nat.le_of_eq g32.symm))
  have ne_b19_1_b32 : b19_1 ≠ b32 := Nat.ne_of_lt (Nat.lt_of_lt_of_le f30_23.lt (Nat.le_of_eq g32.symm))
  have ne_b22_b32 : b22 ≠ b32 := Nat.ne_of_lt (Nat.lt_of_lt_of_le f30_24.lt (Nat.le_of_eq g32.symm))
  have ne_b26_b32 : b26 ≠ b32 := Nat.ne_of_lt (Nat.lt_of_lt_of_le f30_25.lt (Nat.le_of_eq g32.symm))
  have ne_b26_0_b32 : b26_0 ≠ b32 := Nat.ne_of_lt (Nat.lt_of_lt_of_le f30_26.lt (Nat.le_of_eq g32.symm))
  have ne_b26_1_b32 : b26_1 ≠ b32 := Nat.ne_of_lt (Nat.lt_of_lt_of_le f30_28.lt (Nat.le_of_eq g32.symm))
  have g_b32 : n0 ≤ b32 := Nat.le_trans Z30 (Nat.le_of_eq g32.symm)
  have Z32 : n0 ≤ h32.size := Nat.le_trans Z30 E32.1
  have sz_b32 : h0.size ≤ b32 := Nat.le_trans K30.1 (Nat.le_of_eq g32.symm)
  have K32 : Keep h0 h32 [sx] := K30.ext E32
  have U32 : Arv Z h32 b32 k32 .double (2 : Int32) [] (.double 0) := Arv.new A32 (by decide)
  have V32 : Arv Z h32 b32 k32 .double (2 : Int32) [(.double 0), (.double 0)] (.double 0) := U32.pad (pad_rep [] (.double 0) 2)
  obtain ⟨T33, h33, X33, e33, W33, st33⟩ := putF X32 hx hZ hown (host := "") (Or.inl ow48) Via.refl e32 (f30_11.ext E32) (f30_0.ext E32) (Or.inr ⟨ow49, rfl, hnm⟩) ow6 (ty := (.array .double)) (by decide) rfl rfl (g := (oF_init m 125 (oR sx) (oR pl) [(.ref b32), (.ref sx)])) rfl rfl (hb hby o721_125)
  refine own_go st33 ?_
  have f33_0 : Exa Z h33 sx "com/example/composure/composure/select/Simplex" := (f30_0.ext E32).wr W33
  have f33_1 : Fld Z h33 sx "com/example/composure/composure/select/Simplex" "columns" "[[D" (.ref b2) := (f30_1.ext E32).other W33 (Or.inr (slot_ne (Or.inl ow17) (Or.inr ow49) (by decide) (t := (.array (.array .double))) (t' := (.array .double)) (by decide) (by decide)))
  have f33_2 : Fld Z h33 sx "com/example/composure/composure/select/Simplex" "costs" "[D" (.ref b4) := (f30_2.ext E32).other W33 (Or.inr (slot_ne (Or.inl ow19) (Or.inr ow49) (by decide) (t := (.array .double)) (t' := (.array .double)) (by decide) (by decide)))
  have f33_3 : Fld Z h33 sx "com/example/composure/composure/select/Simplex" "basic" "[Z" (.ref b8) := (f30_3.ext E32).other W33 (Or.inr (slot_ne (Or.inl ow24) (Or.inr ow49) (by decide) (t := (.array .boolean)) (t' := (.array .double)) (by decide) (by decide)))
  have f33_4 : Fld Z h33 sx "com/example/composure/composure/select/Simplex" "rows" "I" (.int 2) := (f30_4.ext E32).other W33 (Or.inr (slot_ne (Or.inr ow26) (Or.inr ow49) (by decide) (t := .int) (t' := (.array .double)) (by decide) (by decide)))
  have f33_5 : Fld Z h33 sx "com/example/composure/composure/select/Simplex" "limits" "[D" (.ref b11) := (f30_5.ext E32).other W33 (Or.inr (slot_ne (Or.inr ow36) (Or.inr ow49) (by decide) (t := (.array .double)) (t' := (.array .double)) (by decide) (by decide)))
  have f33_6 : Fld Z h33 sx "com/example/composure/composure/select/Simplex" "basis" "[I" (.ref b15) := (f30_6.ext E32).other W33 (Or.inr (slot_ne (Or.inr ow38) (Or.inr ow49) (by decide) (t := (.array .int)) (t' := (.array .double)) (by decide) (by decide)))
  have f33_7 : Fld Z h33 sx "com/example/composure/composure/select/Simplex" "inverse" "[[D" (.ref b19) := (f30_7.ext E32).other W33 (Or.inr (slot_ne (Or.inr ow41) (Or.inr ow49) (by decide) (t := (.array (.array .double))) (t' := (.array .double)) (by decide) (by decide)))
  have f33_8 : Fld Z h33 sx "com/example/composure/composure/select/Simplex" "values" "[D" (.ref b22) := (f30_8.ext E32).other W33 (Or.inr (slot_ne (Or.inr ow43) (Or.inr ow49) (by decide) (t := (.array .double)) (t' := (.array .double)) (by decide) (by decide)))
  have f33_9 : Fld Z h33 sx "com/example/composure/composure/select/Simplex" "elimination" "[[D" (.ref b26) := (f30_9.ext E32).other W33 (Or.inr (slot_ne (Or.inr ow45) (Or.inr ow49) (by decide) (t := (.array (.array .double))) (t' := (.array .double)) (by decide) (by decide)))
  have f33_10 : Fld Z h33 sx "com/example/composure/composure/select/Simplex" "direction" "[D" (.ref b32) := (f30_11.ext E32).same W33
  have f33_11 : Fld Z h33 sx "com/example/composure/composure/select/Simplex" "count" "I" (.int 0) := (f30_12.ext E32).other W33 (Or.inr (slot_ne (Or.inl ow60) (Or.inr ow49) (by decide) (t := .int) (t' := (.array .double)) (by decide) (by decide)))
  have f33_12 : Arv Z h33 pl kpl .double (2 : Int32) [(.double dl), (.double dm)] (.double 0) := (f30_13.ext E32).other W33 ((Ne.symm hne))
  have f33_13 : Exa Z h33 pl "[D" := (f30_14.ext E32).wr W33
  have f33_14 : Arv Z h33 b2 k2 (.array .double) (16 : Int32) [.null, .null, .null, .null, .null, .null, .null, .null, .null, .null, .null, .null, .null, .null, .null, .null] .null := (f30_15.ext E32).other W33 ((Ne.symm ne_sx_b2))
  have f33_15 : Arv Z h33 b4 k4 .double (16 : Int32) [(.double 0), (.double 0), (.double 0), (.double 0), (.double 0), (.double 0), (.double 0), (.double 0), (.double 0), (.double 0), (.double 0), (.double 0), (.double 0), (.double 0), (.double 0), (.double 0)] (.double 0) := (f30_16.ext E32).other W33 ((Ne.symm ne_sx_b4))
  have f33_16 : Arv Z h33 b8 k8 .boolean (16 : Int32) [(.int 0), (.int 0), (.int 0), (.int 0), (.int 0), (.int 0), (.int 0), (.int 0), (.int 0), (.int 0), (.int 0), (.int 0), (.int 0), (.int 0), (.int 0), (.int 0)] (.int 0) := (f30_17.ext E32).other W33 ((Ne.symm ne_sx_b8))
  have f33_17 : Arv Z h33 b11 kpl .double (2 : Int32) [(.double dl), (.double dm)] (.double 0) := (f30_18.ext E32).other W33 ((Ne.symm ne_sx_b11))
  have f33_18 : Exa Z h33 b11 "[D" := (f30_19.ext E32).wr W33
  have f33_19 : Arv Z h33 b15 k15 .int (2 : Int32) [(.int 0), (.int 0)] (.int 0) := (f30_20.ext E32).other W33 ((Ne.symm ne_sx_b15))
  have f33_20 : Arv Z h33 b19 k19 (.array .double) (2 : Int32) [(.ref b19_0), (.ref b19_1)] .null := (f30_21.ext E32).other W33 ((Ne.symm ne_sx_b19))
  have f33_21 : Arv Z h33 b19_0 j19 .double (2 : Int32) [(.double 0), (.double 0)] (.double 0) := (f30_22.ext E32).other W33 ((Ne.symm ne_sx_b19_0))
  have f33_22 : Arv Z h33 b19_1 j19 .double (2 : Int32) [(.double 0), (.double 0)] (.double 0) := (f30_23.ext E32).other W33 ((Ne.symm ne_sx_b19_1))
  have f33_23 : Arv Z h33 b22 k22 .double (2 : Int32) [(.double 0), (.double 0)] (.double 0) := (f30_24.ext E32).other W33 ((Ne.symm ne_sx_b22))
  have f33_24 : Arv Z h33 b26 k26 (.array .double) (2 : Int32) [(.ref b26_0), (.ref b26_1)] .null := (f30_25.ext E32).other W33 ((Ne.symm ne_sx_b26))
  have f33_25 : Arv Z h33 b26_0 j26 .double (4 : Int32) [(.double 0), (.double 0), (.double 0), (.double 0)] (.double 0) := (f30_26.ext E32).other W33 ((Ne.symm ne_sx_b26_0))
  have f33_26 : Exa Z h33 b26_0 "[D" := (f30_27.ext E32).wr W33
  have f33_27 : Arv Z h33 b26_1 j26 .double (4 : Int32) [(.double 0), (.double 0), (.double 0), (.double 0)] (.double 0) := (f30_28.ext E32).other W33 ((Ne.symm ne_sx_b26_1))
  have f33_28 : Exa Z h33 b26_1 "[D" := (f30_29.ext E32).wr W33
  have f33_29 : Arv Z h33 b32 k32 .double (2 : Int32) [(.double 0), (.double 0)] (.double 0) := V32.other W33 ((Ne.symm ne_sx_b32))
  have N33 := Fr.snoc X33 N30 g_sx
  have Z33 : n0 ≤ h33.size := Nat.le_trans Z32 (Keep.of_wr W33).1
  have K33 : Keep h0 h33 [sx] := K32.wr W33 (Or.inl (List.mem_of_getElem? (i := 0) rfl))
  refine own_go (A := oW p e below T33 (oF_init m 129 (oR sx) (oR pl) [(.ref sx)])) (fun t k => by
    refine XS.aloadN X33.here hx rfl (hb hby o721_128) rfl rfl ?_
    exact k) ?_
  obtain ⟨T34, X34, e34, st34⟩ := getF X33 hx hZ hown (host := "") (Or.inl ow37) Via.refl e33 f33_6 (g := (oF_init m 129 (oR sx) (oR pl) [(.ref sx)])) rfl rfl (hb hby o721_129)
  refine own_go st34 ?_
  refine own_go (A := oW p e below T34 (oF_init m 133 (oR sx) (oR pl) [(.int (-1)), (.ref b15)])) (fun t k => by
    refine XS.iconst X34.here hx rfl (hb hby o721_132) ?_
    exact k) ?_
  obtain ⟨_, _, ⟨T35, L35, k35, n35⟩, -, X35, ⟨Lc35, hQ35, l35, y35, z35⟩, st35⟩ := Jvm.LawKit.callS X34 hx (y := (⟨"java/util/Arrays", "fill", "([II)V"⟩ : MethodName)) hown (mvT hZ ow50) (mvT hZ ow51) (mvT hZ ow52) (mvT hZ ow53) (by decide) (backOf (W := 0) (own_rm_fillI l Z a0 hw [] b15 (-1 : Int32) k15 h33 n0 Z33 f33_19 g_b15) hZ ow53 ow52 (by decide) (by decide)) (g := (oF_init m 133 (oR sx) (oR pl) [(.int (-1)), (.ref b15)])) rfl (by rw [hml]; rfl) (argsL := [(.ref b15), (.int (-1))]) (rest := []) (lenOf own_pd_285bII29V rfl) rfl (by show 2 * 0 + _ ≤ _; exact Nat.le_of_eq rfl) (hb hby o721_133) (fun _ _ => ⟨rfl, e34, (by decide : 15 + 0 ≤ _), (by decide : 90 + 0 ≤ _)⟩)
  dsimp only [Pt.U, Pt.locs, Pt.cells, Pt.slots] at X35 l35 y35 z35 st35 hQ35
  subst l35 y35 z35
  obtain ⟨rfl, N35q, K35q, p35_0⟩ := hQ35
  have N35 := Fr.app N33 N35q
  have f35_0 : Exa Z T35.heap sx "com/example/composure/composure/select/Simplex" := f33_0.keep K35q
  have f35_1 : Fld Z T35.heap sx "com/example/composure/composure/select/Simplex" "columns" "[[D" (.ref b2) := f33_1.keep K35q (ninS ne_sx_b15 nin0)
  have f35_2 : Fld Z T35.heap sx "com/example/composure/composure/select/Simplex" "costs" "[D" (.ref b4) := f33_2.keep K35q (ninS ne_sx_b15 nin0)
  have f35_3 : Fld Z T35.heap sx "com/example/composure/composure/select/Simplex" "basic" "[Z" (.ref b8) := f33_3.keep K35q (ninS ne_sx_b15 nin0)
  have f35_4 : Fld Z T35.heap sx "com/example/composure/composure/select/Simplex" "rows" "I" (.int 2) := f33_4.keep K35q (ninS ne_sx_b15 nin0)
  have f35_5 : Fld Z T35.heap sx "com/example/composure/composure/select/Simplex" "limits" "[D" (.ref b11) := f33_5.keep K35q (ninS ne_sx_b15 nin0)
  have f35_6 : Fld Z T35.heap sx "com/example/composure/composure/select/Simplex" "basis" "[I" (.ref b15) := f33_6.keep K35q (ninS ne_sx_b15 nin0)
  have f35_7 : Fld Z T35.heap sx "com/example/composure/composure/select/Simplex" "inverse" "[[D" (.ref b19) := f33_7.keep K35q (ninS ne_sx_b15 nin0)
  have f35_8 : Fld Z T35.heap sx "com/example/composure/composure/select/Simplex" "values" "[D" (.ref b22) := f33_8.keep K35q (ninS ne_sx_b15 nin0)
  have f35_9 : Fld Z T35.heap sx "com/example/composure/composure/select/Simplex" "elimination" "[[D" (.ref b26) := f33_9.keep K35q (ninS ne_sx_b15 nin0)
  have f35_10 : Fld Z T35.heap sx "com/example/composure/composure/select/Simplex" "count" "I" (.int 0) := f33_11.keep K35q (ninS ne_sx_b15 nin0)
  have f35_11 : Arv Z T35.heap pl kpl .double (2 : Int32) [(.double dl), (.double dm)] (.double 0) := f33_12.keep K35q (ninS ne_pl_b15 nin0)
  have f35_12 : Exa Z T35.heap pl "[D" := f33_13.keep K35q
  have f35_13 : Arv Z T35.heap b2 k2 (.array .double) (16 : Int32) [.null, .null, .null, .null, .null, .null, .null, .null, .null, .null, .null, .null, .null, .null, .null, .null] .null := f33_14.keep K35q (ninS ne_b2_b15 nin0)
  have f35_14 : Arv Z T35.heap b4 k4 .double (16 : Int32) [(.double 0), (.double 0), (.double 0), (.double 0), (.double 0), (.double 0), (.double 0), (.double 0), (.double 0), (.double 0), (.double 0), (.double 0), (.double 0), (.double 0), (.double 0), (.double 0)] (.double 0) := f33_15.keep K35q (ninS ne_b4_b15 nin0)
  have f35_15 : Arv Z T35.heap b8 k8 .boolean (16 : Int32) [(.int 0), (.int 0), (.int 0), (.int 0), (.int 0), (.int 0), (.int 0), (.int 0), (.int 0), (.int 0), (.int 0), (.int 0), (.int 0), (.int 0), (.int 0), (.int 0)] (.int 0) := f33_16.keep K35q (ninS ne_b8_b15 nin0)
  have f35_16 : Arv Z T35.heap b11 kpl .double (2 : Int32) [(.double dl), (.double dm)] (.double 0) := f33_17.keep K35q (ninS ne_b11_b15 nin0)
  have f35_17 : Exa Z T35.heap b11 "[D" := f33_18.keep K35q
  have f35_19 : Arv Z T35.heap b19 k19 (.array .double) (2 : Int32) [(.ref b19_0), (.ref b19_1)] .null := f33_20.keep K35q (ninS (Ne.symm ne_b15_b19) nin0)
  have f35_20 : Arv Z T35.heap b19_0 j19 .double (2 : Int32) [(.double 0), (.double 0)] (.double 0) := f33_21.keep K35q (ninS (Ne.symm ne_b15_b19_0) nin0)
  have f35_21 : Arv Z T35.heap b19_1 j19 .double (2 : Int32) [(.double 0), (.double 0)] (.double 0) := f33_22.keep K35q (ninS (Ne.symm ne_b15_b19_1) nin0)
  have f35_22 : Arv Z T35.heap b22 k22 .double (2 : Int32) [(.double 0), (.double 0)] (.double 0) := f33_23.keep K35q (ninS (Ne.symm ne_b15_b22) nin0)
  have f35_23 : Arv Z T35.heap b26 k26 (.array .double) (2 : Int32) [(.ref b26_0), (.ref b26_1)] .null := f33_24.keep K35q (ninS (Ne.symm ne_b15_b26) nin0)
  have f35_24 : Arv Z T35.heap b26_0 j26 .double (4 : Int32) [(.double 0), (.double 0), (.double 0), (.double 0)] (.double 0) := f33_25.keep K35q (ninS (Ne.symm ne_b15_b26_0) nin0)
  have f35_25 : Exa Z T35.heap b26_0 "[D" := f33_26.keep K35q
  have f35_26 : Arv Z T35.heap b26_1 j26 .double (4 : Int32) [(.double 0), (.double 0), (.double 0), (.double 0)] (.double 0) := f33_27.keep K35q (ninS (Ne.symm ne_b15_b26_1) nin0)
  have f35_27 : Exa Z T35.heap b26_1 "[D" := f33_28.keep K35q
  have Z35 : n0 ≤ T35.heap.size := Nat.le_trans Z33 K35q.1
  have K35 : Keep h0 T35.heap [sx] := K33.trans K35q (allS (Or.inr sz_b15) all0)
  refine own_go st35 ?_
  obtain ⟨fs, hr, hrun, hended, hW, hsame⟩ := X35.leave (v := none) (fun _ => rfl)
  refine ⟨_, _, X35.returnOut hx Bd.returns (hb hby o721_136) hr, hPf _ _ ⟨hrun, hended, _, _, rfl, ?_, ⟨_, rfl⟩, hW, hsame.mono (by decide) (by decide)⟩⟩
  show own_Q_init Z sx pl kpl dl dm h0 n0 _ T35.heap _
  exact ⟨b2, b4, b8, b11, b15, b19, b19_0, b19_1, b22, b26, b26_0, b26_1, k2, k4, k8, kpl, k15, k19, j19, j19, k22, k26, j26, j26, rfl, N35, K35, (own_ndS (ninS ne_b2_b4 (ninS ne_b2_b8 (ninS ne_b2_b11 (ninS ne_b2_b15 (ninS ne_b2_b19 (ninS ne_b2_b19_0 (ninS ne_b2_b19_1 (ninS ne_b2_b22 (ninS ne_b2_b26 (ninS ne_b2_b26_0 (ninS ne_b2_b26_1 nin0))))))))))) (own_ndS (ninS ne_b4_b8 (ninS ne_b4_b11 (ninS ne_b4_b15 (ninS ne_b4_b19 (ninS ne_b4_b19_0 (ninS ne_b4_b19_1 (ninS ne_b4_b22 (ninS ne_b4_b26 (ninS ne_b4_b26_0 (ninS ne_b4_b26_1 nin0)))))))))) (own_ndS (ninS ne_b8_b11 (ninS ne_b8_b15 (ninS ne_b8_b19 (ninS ne_b8_b19_0 (ninS ne_b8_b19_1 (ninS ne_b8_b22 (ninS ne_b8_b26 (ninS ne_b8_b26_0 (ninS ne_b8_b26_1 nin0))))))))) (own_ndS (ninS ne_b11_b15 (ninS ne_b11_b19 (ninS ne_b11_b19_0 (ninS ne_b11_b19_1 (ninS ne_b11_b22 (ninS ne_b11_b26 (ninS ne_b11_b26_0 (ninS ne_b11_b26_1 nin0)))))))) (own_ndS (ninS ne_b15_b19 (ninS ne_b15_b19_0 (ninS ne_b15_b19_1 (ninS ne_b15_b22 (ninS ne_b15_b26 (ninS ne_b15_b26_0 (ninS ne_b15_b26_1 nin0))))))) (own_ndS (ninS ne_b19_b19_0 (ninS ne_b19_b19_1 (ninS ne_b19_b22 (ninS ne_b19_b26 (ninS ne_b19_b26_0 (ninS ne_b19_b26_1 nin0)))))) (own_ndS (ninS ne_b19_0_b19_1 (ninS ne_b19_0_b22 (ninS ne_b19_0_b26 (ninS ne_b19_0_b26_0 (ninS ne_b19_0_b26_1 nin0))))) (own_ndS (ninS ne_b19_1_b22 (ninS ne_b19_1_b26 (ninS ne_b19_1_b26_0 (ninS ne_b19_1_b26_1 nin0)))) (own_ndS (ninS ne_b22_b26 (ninS ne_b22_b26_0 (ninS ne_b22_b26_1 nin0))) (own_ndS (ninS ne_b26_b26_0 (ninS ne_b26_b26_1 nin0)) (own_ndS (ninS ne_b26_0_b26_1 nin0) (own_ndS nin0 List.nodup_nil)))))))))))), ⟨sz_b2, sz_b4, sz_b8, sz_b11, sz_b15, sz_b19, sz_b19_0, sz_b19_1, sz_b22, sz_b26, sz_b26_0, sz_b26_1⟩, O2, O26, f35_4, f35_10, f35_1, f35_2, f35_3, f35_5, f35_6, f35_7, f35_8, f35_9, f35_13, f35_14, f35_15, f35_16, p35_0, f35_19, f35_20, f35_21, f35_22, f35_23, f35_24, f35_26, f35_25, f35_27⟩
abbrev oF_add0 (m : MethodId) (pc : Nat) (a0 a1 a2 a3 : Slot) (S : List Value) : JFrame := mkF m pc #[a0, a1, a2, a3] S
theorem o722_0 : decode prog_72_method_2_code 0 = .ok (.aload_n 0, 1) := by decide +kernel
theorem o722_1 : decode prog_72_method_2_code 1 = .ok (.getfield 62, 3) := by decide +kernel
theorem o722_4 : decode prog_72_method_2_code 4 = .ok (.aload_n 0, 1) := by decide +kernel
theorem o722_5 : decode prog_72_method_2_code 5 = .ok (.getfield 15, 3) := by decide +kernel
theorem o722_8 : decode prog_72_method_2_code 8 = .ok (.arraylength, 1) := by decide +kernel
theorem o722_9 : decode prog_72_method_2_code 9 = .ok (.if_icmp .ne 74, 3) := by decide +kernel
theorem o722_83 : decode prog_72_method_2_code 83 = .ok (.aload_n 0, 1) := by decide +kernel
theorem o722_84 : decode prog_72_method_2_code 84 = .ok (.getfield 9, 3) := by decide +kernel
theorem o722_87 : decode prog_72_method_2_code 87 = .ok (.aload_n 0, 1) := by decide +kernel
theorem o722_88 : decode prog_72_method_2_code 88 = .ok (.getfield 62, 3) := by decide +kernel
theorem o722_91 : decode prog_72_method_2_code 91 = .ok (.aload_n 1, 1) := by decide +kernel
theorem o722_92 : decode prog_72_method_2_code 92 = .ok (.invokevirtual 29, 3) := by decide +kernel
theorem o722_95 : decode prog_72_method_2_code 95 = .ok (.checkcast 7, 3) := by decide +kernel
theorem o722_98 : decode prog_72_method_2_code 98 = .ok (.aastore, 1) := by decide +kernel
theorem o722_99 : decode prog_72_method_2_code 99 = .ok (.aload_n 0, 1) := by decide +kernel
theorem o722_100 : decode prog_72_method_2_code 100 = .ok (.getfield 15, 3) := by decide +kernel
theorem o722_103 : decode prog_72_method_2_code 103 = .ok (.aload_n 0, 1) := by decide +kernel
theorem o722_104 : decode prog_72_method_2_code 104 = .ok (.getfield 62, 3) := by decide +kernel
theorem o722_107 : decode prog_72_method_2_code 107 = .ok (.dload_n 2, 1) := by decide +kernel
theorem o722_108 : decode prog_72_method_2_code 108 = .ok (.dastore, 1) := by decide +kernel
theorem o722_109 : decode prog_72_method_2_code 109 = .ok (.aload_n 0, 1) := by decide +kernel
theorem o722_110 : decode prog_72_method_2_code 110 = .ok (.dup, 1) := by decide +kernel
theorem o722_111 : decode prog_72_method_2_code 111 = .ok (.getfield 62, 3) := by decide +kernel
theorem o722_114 : decode prog_72_method_2_code 114 = .ok (.dup_x1, 1) := by decide +kernel
theorem o722_115 : decode prog_72_method_2_code 115 = .ok (.iconst 1, 1) := by decide +kernel
theorem o722_116 : decode prog_72_method_2_code 116 = .ok (.iadd, 1) := by decide +kernel
theorem o722_117 : decode prog_72_method_2_code 117 = .ok (.putfield 62, 3) := by decide +kernel
theorem o722_120 : decode prog_72_method_2_code 120 = .ok (.ireturn, 1) := by decide +kernel
theorem own_ef_add0 (m : MethodId) (x0 : Addr) (x1 : Addr) (x2 : UInt64) : entryFrame m #[(.ref x0), (.ref x1), (.double x2)] 4 = mkF m 0 #[(oR x0), (oR x1), (od x2), .second] [] := by first | (simp [entryFrame, mkF, argsToLocals, Value.category]; done) | rfl
def own_Q_add0 (Z : State) (sx : Addr) (pk : Addr) (dc : UInt64) (co cs bc li ba iv vl el : Addr) (kco kcs kpk : ClassId) (f0 f1 : UInt64) (h0 : Heap) (n0 : Nat) (v : Option Value) (h : Heap) (L : List Loc) : Prop := ∃ cn : Addr, v = some (.int 0) ∧ Fr n0 L ∧ Keep h0 h [sx, co, cs] ∧ h0.size ≤ cn ∧ Fld Z h sx "com/example/composure/composure/select/Simplex" "rows" "I" (.int 2) ∧ Fld Z h sx "com/example/composure/composure/select/Simplex" "count" "I" (.int 1) ∧ Fld Z h sx "com/example/composure/composure/select/Simplex" "columns" "[[D" (.ref co) ∧ Fld Z h sx "com/example/composure/composure/select/Simplex" "costs" "[D" (.ref cs) ∧ Fld Z h sx "com/example/composure/composure/select/Simplex" "basic" "[Z" (.ref bc) ∧ Fld Z h sx "com/example/composure/composure/select/Simplex" "limits" "[D" (.ref li) ∧ Fld Z h sx "com/example/composure/composure/select/Simplex" "basis" "[I" (.ref ba) ∧ Fld Z h sx "com/example/composure/composure/select/Simplex" "inverse" "[[D" (.ref iv) ∧ Fld Z h sx "com/example/composure/composure/select/Simplex" "values" "[D" (.ref vl) ∧ Fld Z h sx "com/example/composure/composure/select/Simplex" "elimination" "[[D" (.ref el) ∧ Arv Z h co kco (.array .double) (16 : Int32) [(.ref cn), .null, .null, .null, .null, .null, .null, .null, .null, .null, .null, .null, .null, .null, .null, .null] .null ∧ Arv Z h cs kcs .double (16 : Int32) [(.double dc), (.double 0), (.double 0), (.double 0), (.double 0), (.double 0), (.double 0), (.double 0), (.double 0), (.double 0), (.double 0), (.double 0), (.double 0), (.double 0), (.double 0), (.double 0)] (.double 0) ∧ Arv Z h cn kpk .double (2 : Int32) [(.double f0), (.double f1)] (.double 0)
set_option maxRecDepth 65536 in
set_option maxHeartbeats 40000000 in
theorem own_rm_add0 (l : Launch) (Z : State) (a0 : Array Value) (hw : ∀ d ∈ tables_1, d.before a0 Z = true) (ws : List Jvm.Cond) (sx : Addr) (pk : Addr) (dc : UInt64) (co cs bc li ba iv vl el : Addr) (kco kcs kpk : ClassId) (f0 f1 : UInt64) (h0 : Heap) (n0 : Nat) (Z0 : n0 ≤ h0.size) (hnd : ([sx, co, cs, pk] : List Addr).Nodup) (g_sx : n0 ≤ sx) (g_co : n0 ≤ co) (g_cs : n0 ≤ cs) (Oco : OvrA Z kco .double "[D") (Gp0 : Exa Z h0 sx "com/example/composure/composure/select/Simplex") (Gp1 : Fld Z h0 sx "com/example/composure/composure/select/Simplex" "rows" "I" (.int 2)) (Gp2 : Fld Z h0 sx "com/example/composure/composure/select/Simplex" "count" "I" (.int 0)) (Gp3 : Fld Z h0 sx "com/example/composure/composure/select/Simplex" "columns" "[[D" (.ref co)) (Gp4 : Fld Z h0 sx "com/example/composure/composure/select/Simplex" "costs" "[D" (.ref cs)) (Gp5 : Fld Z h0 sx "com/example/composure/composure/select/Simplex" "basic" "[Z" (.ref bc)) (Gp6 : Fld Z h0 sx "com/example/composure/composure/select/Simplex" "limits" "[D" (.ref li)) (Gp7 : Fld Z h0 sx "com/example/composure/composure/select/Simplex" "basis" "[I" (.ref ba)) (Gp8 : Fld Z h0 sx "com/example/composure/composure/select/Simplex" "inverse" "[[D" (.ref iv)) (Gp9 : Fld Z h0 sx "com/example/composure/composure/select/Simplex" "values" "[D" (.ref vl)) (Gp10 : Fld Z h0 sx "com/example/composure/composure/select/Simplex" "elimination" "[[D" (.ref el)) (Gp11 : Arv Z h0 co kco (.array .double) (16 : Int32) [.null, .null, .null, .null, .null, .null, .null, .null, .null, .null, .null, .null, .null, .null, .null, .null] .null) (Gp12 : Arv Z h0 cs kcs .double (16 : Int32) [(.double 0), (.double 0), (.double 0), (.double 0), (.double 0), (.double 0), (.double 0), (.double 0), (.double 0), (.double 0), (.double 0), (.double 0), (.double 0), (.double 0), (.double 0), (.double 0)] (.double 0)) (Gp13 : Arv Z h0 pk kpk .double (2 : Int32) [(.double f0), (.double f1)] (.double 0)) (Gp14 : Exa Z h0 pk "[D") :
    MetFree l (⟨"com/example/composure/composure/select/Simplex", "add", "([DD)I"⟩ : MethodName) (head1 (Jvm.Cond.code (⟨"com/example/composure/composure/select/Simplex", "add", "([DD)I"⟩ : MethodName) prog_72_method_2_code 4 (some .int) :: ws) ({ frames := 1, cells := 1, slots := 2, locals := 16 } : Room)) (fun a U => a = #[(.ref sx), (.ref pk), (.double dc)] ∧ Z.Warmed39 U.vm ∧ U.heap = h0) (fun _ _ _ _ _ => True) (fun _ U o U' => ∃ v L, o = .returned v ∧ own_Q_add0 Z sx pk dc co cs bc li ba iv vl el kco kcs kpk f0 f1 h0 n0 v U'.heap L ∧ FrameEnd U o U' L ({ frames := 1, cells := 1, slots := 2, locals := 16 } : Room).cells ({ frames := 1, cells := 1, slots := 2, locals := 16 } : Room).slots) := by
  refine MetFree.of_bodySF (plainFor_of_name own_pn_com_example_composure_composure_select_Simplex) hisR ?_
  intro p e s m args below meth c s₁ Bd hml0 hP hKq_
  obtain ⟨rfl, hZ, hh⟩ := hP
  have hx := Bd.exec
  have hby := Bd.bytes
  have hml : c.maxLocals = 4 := hml0
  have hown : s.vm.findClass "com/example/composure/composure/select/Simplex" = some m.cls := findClass_of_methodNamed Bd.named
  have hnm := (name_of_methodNamed Bd.named Bd.method).1
  have ow6 := hw _ (List.mem_of_getElem? (i := 6) rfl)
  have ow14 := hw _ (List.mem_of_getElem? (i := 14) rfl)
  have ow16 := hw _ (List.mem_of_getElem? (i := 16) rfl)
  have ow17 := hw _ (List.mem_of_getElem? (i := 17) rfl)
  have ow18 := hw _ (List.mem_of_getElem? (i := 18) rfl)
  have ow19 := hw _ (List.mem_of_getElem? (i := 19) rfl)
  have ow24 := hw _ (List.mem_of_getElem? (i := 24) rfl)
  have ow26 := hw _ (List.mem_of_getElem? (i := 26) rfl)
  have ow27 := hw _ (List.mem_of_getElem? (i := 27) rfl)
  have ow28 := hw _ (List.mem_of_getElem? (i := 28) rfl)
  have ow30 := hw _ (List.mem_of_getElem? (i := 30) rfl)
  have ow31 := hw _ (List.mem_of_getElem? (i := 31) rfl)
  have ow32 := hw _ (List.mem_of_getElem? (i := 32) rfl)
  have ow33 := hw _ (List.mem_of_getElem? (i := 33) rfl)
  have ow36 := hw _ (List.mem_of_getElem? (i := 36) rfl)
  have ow38 := hw _ (List.mem_of_getElem? (i := 38) rfl)
  have ow41 := hw _ (List.mem_of_getElem? (i := 41) rfl)
  have ow43 := hw _ (List.mem_of_getElem? (i := 43) rfl)
  have ow45 := hw _ (List.mem_of_getElem? (i := 45) rfl)
  have ow59 := hw _ (List.mem_of_getElem? (i := 59) rfl)
  have ow60 := hw _ (List.mem_of_getElem? (i := 60) rfl)
  have X0 : Stand p l e ({ frames := 1, cells := 1, slots := 2, locals := 16 } : Room) s m #[(.ref sx), (.ref pk), (.double dc)] below meth c s₁ [] 0 0 := Stand.of_body Bd
  have e0 : s₁.heap = h0 := by rw [← hh, Bd.state]; rfl
  have N0 := Fr.nil n0
  have pre0 : ∀ t, Steps p.tables e below (s₁.setTop (mkF m 0 #[(oR sx), (oR pk), (od dc), .second] [])) t → Steps p.tables e below (s₁.setTop (entryFrame m #[(.ref sx), (.ref pk), (.double dc)] 4)) t := fun t k => castTop (own_ef_add0 m sx pk dc) k
  refine own_go pre0 ?_
  refine own_abs ?_
  intro Pf hPf
  have od_sx_co : sx ≠ co := (own_nd hnd (i := 0) (j := 1) rfl rfl (by decide))
  have od_sx_cs : sx ≠ cs := (own_nd hnd (i := 0) (j := 2) rfl rfl (by decide))
  have od_co_cs : co ≠ cs := (own_nd hnd (i := 1) (j := 2) rfl rfl (by decide))
  have nn_pk : pk ∉ ([sx, co, cs] : List Addr) := (ninS (own_nd hnd (i := 3) (j := 0) rfl rfl (by decide)) (ninS (own_nd hnd (i := 3) (j := 1) rfl rfl (by decide)) (ninS (own_nd hnd (i := 3) (j := 2) rfl rfl (by decide)) nin0)))
  refine own_go (A := oW p e below s₁ (oF_add0 m 1 (oR sx) (oR pk) (od dc) .second [(.ref sx)])) (fun t k => by
    refine XS.aloadN X0.here hx rfl (hb hby o722_0) rfl rfl ?_
    exact k) ?_
  obtain ⟨T1, X1, e1, st1⟩ := getF X0 hx hZ hown (host := "") (Or.inl ow59) Via.refl e0 Gp2 (g := (oF_add0 m 1 (oR sx) (oR pk) (od dc) .second [(.ref sx)])) rfl rfl (hb hby o722_1)
  refine own_go st1 ?_
  refine own_go (A := oW p e below T1 (oF_add0 m 5 (oR sx) (oR pk) (od dc) .second [(.ref sx), (.int 0)])) (fun t k => by
    refine XS.aloadN X1.here hx rfl (hb hby o722_4) rfl rfl ?_
    exact k) ?_
  obtain ⟨T2, X2, e2, st2⟩ := getF X1 hx hZ hown (host := "") (Or.inl ow18) Via.refl e1 Gp4 (g := (oF_add0 m 5 (oR sx) (oR pk) (od dc) .second [(.ref sx), (.int 0)])) rfl rfl (hb hby o722_5)
  refine own_go st2 ?_
  refine own_go (A := oW p e below T2 (oF_add0 m 84 (oR sx) (oR pk) (od dc) .second [(.ref sx)])) (fun t k => by
    refine own_len2 X2 hx hZ e2 Gp12 (g := (oF_add0 m 8 (oR sx) (oR pk) (od dc) .second [(.ref cs), (.int 0)])) rfl rfl (hb hby o722_8) _ ?_
    refine XS.icmpYes X2.here hx rfl (pc0 := 9) (pc' := 83) rfl (hb hby o722_9) rfl (feq (by decide : ¬ ((0 : Int32) = (16 : Int32)))).2 (by decide) (by decide) ?_
    show oW p e below T2 (oF_add0 m 83 (oR sx) (oR pk) (od dc) .second []) _
    refine XS.aloadN X2.here hx rfl (hb hby o722_83) rfl rfl ?_
    exact k) ?_
  obtain ⟨T3, X3, e3, st3⟩ := getF X2 hx hZ hown (host := "") (Or.inl ow16) Via.refl e2 Gp3 (g := (oF_add0 m 84 (oR sx) (oR pk) (od dc) .second [(.ref sx)])) rfl rfl (hb hby o722_84)
  refine own_go st3 ?_
  refine own_go (A := oW p e below T3 (oF_add0 m 88 (oR sx) (oR pk) (od dc) .second [(.ref sx), (.ref co)])) (fun t k => by
    refine XS.aloadN X3.here hx rfl (hb hby o722_87) rfl rfl ?_
    exact k) ?_
  obtain ⟨T4, X4, e4, st4⟩ := getF X3 hx hZ hown (host := "") (Or.inl ow59) Via.refl e3 Gp2 (g := (oF_add0 m 88 (oR sx) (oR pk) (od dc) .second [(.ref sx), (.ref co)])) rfl rfl (hb hby o722_88)
  refine own_go st4 ?_
  refine own_go (A := oW p e below T4 (oF_add0 m 92 (oR sx) (oR pk) (od dc) .second [(.ref pk), (.int 0), (.ref co)])) (fun t k => by
    refine XS.aloadN X4.here hx rfl (hb hby o722_91) rfl rfl ?_
    exact k) ?_
  obtain ⟨T5, h5, X5, e5, E5, A5, Q5, st5⟩ := own_cloneV X4 hx hZ hown ow27 ow28 ow32 ow30 ow31 ow33 e4 Gp13 Gp14 (g := (oF_add0 m 92 (oR sx) (oR pk) (od dc) .second [(.ref pk), (.int 0), (.ref co)])) rfl (by rw [hml]; rfl) rfl (hb hby o722_92) (by decide) (W := 2) (by show 2 * 0 + _ ≤ _; exact Nat.le_of_eq rfl) (by decide) (cap := 2) (by decide) (by decide) (by decide)
  obtain ⟨b5, g5⟩ : ∃ z, z = h0.size := ⟨_, rfl⟩
  rw [← g5] at A5 Q5 st5
  refine own_go st5 ?_
  have ne_sx_b5 : sx ≠ b5 := Nat.ne_of_lt (Nat.lt_of_lt_of_le Gp0.lt (Nat.le_of_eq g5.symm))
  have ne_co_b5 : co ≠ b5 := Nat.ne_of_lt (Nat.lt_of_lt_of_le Gp11.lt (Nat.le_of_eq g5.symm))
  have ne_cs_b5 : cs ≠ b5 := Nat.ne_of_lt (Nat.lt_of_lt_of_le Gp12.lt (Nat.le_of_eq g5.symm))
  have ne_pk_b5 : pk ≠ b5 := Nat.ne_of_lt (Nat.lt_of_lt_of_le Gp13.lt (Nat.le_of_eq g5.symm))
  have g_b5 : n0 ≤ b5 := Nat.le_trans Z0 (Nat.le_of_eq g5.symm)
  have Z5 : n0 ≤ h5.size := Nat.le_trans Z0 E5.1
  have sz_b5 : h0.size ≤ b5 := Nat.le_trans (Keep.refl h0 [sx, co, cs]).1 (Nat.le_of_eq g5.symm)
  have K5 : Keep h0 h5 [sx, co, cs] := (Keep.refl h0 [sx, co, cs]).ext E5
  obtain ⟨T6, X6, e6, st6⟩ := castY X5 hx hZ hown ow14 e5 (Ins.self Q5) (g := (oF_add0 m 95 (oR sx) (oR pk) (od dc) .second [(.ref b5), (.int 0), (.ref co)])) rfl rfl (hb hby o722_95)
  refine own_go st6 ?_
  obtain ⟨cl7, Ar7, q7, S7, N7, H7, G7⟩ := id ((Gp11.ext E5))
  have hi7 : ¬ ((0 : Int32) < 0 ∨ cl7.slots.size ≤ ((0 : Int32)).toNatClampNeg) := inb_of S7 ⟨by decide, by decide⟩
  obtain ⟨T8, h8, X8, e8, W8, st8⟩ := stR X6 hx hZ e6 Ar7 (j := (0 : Int32)) hi7 rfl (Sto.ofVA Ar7 q7 Oco (Ins.self Q5)) (g := (oF_add0 m 98 (oR sx) (oR pk) (od dc) .second [(.ref b5), (.int 0), (.ref co)])) rfl rfl (hb hby o722_98)
  refine own_go st8 ?_
  have V8 : Arv Z h8 co kco (.array .double) (16 : Int32) [(.ref b5), .null, .null, .null, .null, .null, .null, .null, .null, .null, .null, .null, .null, .null, .null, .null] .null := Arv.set Ar7 q7 S7 N7 H7 G7 rfl W8 0 rfl (Nat.le_of_ble_eq_true rfl)
  have f8_1 : Fld Z h8 sx "com/example/composure/composure/select/Simplex" "rows" "I" (.int 2) := (Gp1.ext E5).other W8 (Or.inl od_sx_co)
  have f8_2 : Fld Z h8 sx "com/example/composure/composure/select/Simplex" "count" "I" (.int 0) := (Gp2.ext E5).other W8 (Or.inl od_sx_co)
  have f8_3 : Fld Z h8 sx "com/example/composure/composure/select/Simplex" "columns" "[[D" (.ref co) := (Gp3.ext E5).other W8 (Or.inl od_sx_co)
  have f8_4 : Fld Z h8 sx "com/example/composure/composure/select/Simplex" "costs" "[D" (.ref cs) := (Gp4.ext E5).other W8 (Or.inl od_sx_co)
  have f8_5 : Fld Z h8 sx "com/example/composure/composure/select/Simplex" "basic" "[Z" (.ref bc) := (Gp5.ext E5).other W8 (Or.inl od_sx_co)
  have f8_6 : Fld Z h8 sx "com/example/composure/composure/select/Simplex" "limits" "[D" (.ref li) := (Gp6.ext E5).other W8 (Or.inl od_sx_co)
  have f8_7 : Fld Z h8 sx "com/example/composure/composure/select/Simplex" "basis" "[I" (.ref ba) := (Gp7.ext E5).other W8 (Or.inl od_sx_co)
  have f8_8 : Fld Z h8 sx "com/example/composure/composure/select/Simplex" "inverse" "[[D" (.ref iv) := (Gp8.ext E5).other W8 (Or.inl od_sx_co)
  have f8_9 : Fld Z h8 sx "com/example/composure/composure/select/Simplex" "values" "[D" (.ref vl) := (Gp9.ext E5).other W8 (Or.inl od_sx_co)
  have f8_10 : Fld Z h8 sx "com/example/composure/composure/select/Simplex" "elimination" "[[D" (.ref el) := (Gp10.ext E5).other W8 (Or.inl od_sx_co)
  have f8_11 : Arv Z h8 co kco (.array .double) (16 : Int32) [(.ref b5), .null, .null, .null, .null, .null, .null, .null, .null, .null, .null, .null, .null, .null, .null, .null] .null := V8
  have f8_12 : Arv Z h8 cs kcs .double (16 : Int32) [(.double 0), (.double 0), (.double 0), (.double 0), (.double 0), (.double 0), (.double 0), (.double 0), (.double 0), (.double 0), (.double 0), (.double 0), (.double 0), (.double 0), (.double 0), (.double 0)] (.double 0) := (Gp12.ext E5).other W8 (od_co_cs.symm)
  have f8_15 : Arv Z h8 b5 kpk .double (2 : Int32) [(.double f0), (.double f1)] (.double 0) := A5.other W8 ((Ne.symm ne_co_b5))
  have f8_16 : Exa Z h8 b5 "[D" := Q5.wr W8
  have N8 := Fr.snoc X8 N0 g_co
  have Z8 : n0 ≤ h8.size := Nat.le_trans Z5 (Keep.of_wr W8).1
  have K8 : Keep h0 h8 [sx, co, cs] := K5.wr W8 (Or.inl (List.mem_of_getElem? (i := 1) rfl))
  refine own_go (A := oW p e below T8 (oF_add0 m 100 (oR sx) (oR pk) (od dc) .second [(.ref sx)])) (fun t k => by
    refine XS.aloadN X8.here hx rfl (hb hby o722_99) rfl rfl ?_
    exact k) ?_
  obtain ⟨T9, X9, e9, st9⟩ := getF X8 hx hZ hown (host := "") (Or.inl ow18) Via.refl e8 f8_4 (g := (oF_add0 m 100 (oR sx) (oR pk) (od dc) .second [(.ref sx)])) rfl rfl (hb hby o722_100)
  refine own_go st9 ?_
  refine own_go (A := oW p e below T9 (oF_add0 m 104 (oR sx) (oR pk) (od dc) .second [(.ref sx), (.ref cs)])) (fun t k => by
    refine XS.aloadN X9.here hx rfl (hb hby o722_103) rfl rfl ?_
    exact k) ?_
  obtain ⟨T10, X10, e10, st10⟩ := getF X9 hx hZ hown (host := "") (Or.inl ow59) Via.refl e9 f8_2 (g := (oF_add0 m 104 (oR sx) (oR pk) (od dc) .second [(.ref sx), (.ref cs)])) rfl rfl (hb hby o722_104)
  refine own_go st10 ?_
  refine own_go (A := oW p e below T10 (oF_add0 m 108 (oR sx) (oR pk) (od dc) .second [(.double dc), (.int 0), (.ref cs)])) (fun t k => by
    refine XS.dloadN X10.here hx rfl (hb hby o722_107) rfl ?_
    exact k) ?_
  obtain ⟨T11, h11, X11, e11, W11, U11, st11⟩ := own_stD X10 hx hZ e10 f8_12 (j := (0 : Int32)) ⟨by decide, by decide⟩ 0 rfl (Nat.le_of_ble_eq_true rfl) (g := (oF_add0 m 108 (oR sx) (oR pk) (od dc) .second [(.double dc), (.int 0), (.ref cs)])) rfl rfl (hb hby o722_108)
  refine own_go st11 ?_
  have V11 : Arv Z h11 cs kcs .double (16 : Int32) [(.double dc), (.double 0), (.double 0), (.double 0), (.double 0), (.double 0), (.double 0), (.double 0), (.double 0), (.double 0), (.double 0), (.double 0), (.double 0), (.double 0), (.double 0), (.double 0)] (.double 0) := U11
  have f11_1 : Fld Z h11 sx "com/example/composure/composure/select/Simplex" "rows" "I" (.int 2) := f8_1.other W11 (Or.inl od_sx_cs)
  have f11_2 : Fld Z h11 sx "com/example/composure/composure/select/Simplex" "count" "I" (.int 0) := f8_2.other W11 (Or.inl od_sx_cs)
  have f11_3 : Fld Z h11 sx "com/example/composure/composure/select/Simplex" "columns" "[[D" (.ref co) := f8_3.other W11 (Or.inl od_sx_cs)
  have f11_4 : Fld Z h11 sx "com/example/composure/composure/select/Simplex" "costs" "[D" (.ref cs) := f8_4.other W11 (Or.inl od_sx_cs)
  have f11_5 : Fld Z h11 sx "com/example/composure/composure/select/Simplex" "basic" "[Z" (.ref bc) := f8_5.other W11 (Or.inl od_sx_cs)
  have f11_6 : Fld Z h11 sx "com/example/composure/composure/select/Simplex" "limits" "[D" (.ref li) := f8_6.other W11 (Or.inl od_sx_cs)
  have f11_7 : Fld Z h11 sx "com/example/composure/composure/select/Simplex" "basis" "[I" (.ref ba) := f8_7.other W11 (Or.inl od_sx_cs)
  have f11_8 : Fld Z h11 sx "com/example/composure/composure/select/Simplex" "inverse" "[[D" (.ref iv) := f8_8.other W11 (Or.inl od_sx_cs)
  have f11_9 : Fld Z h11 sx "com/example/composure/composure/select/Simplex" "values" "[D" (.ref vl) := f8_9.other W11 (Or.inl od_sx_cs)
  have f11_10 : Fld Z h11 sx "com/example/composure/composure/select/Simplex" "elimination" "[[D" (.ref el) := f8_10.other W11 (Or.inl od_sx_cs)
  have f11_11 : Arv Z h11 co kco (.array .double) (16 : Int32) [(.ref b5), .null, .null, .null, .null, .null, .null, .null, .null, .null, .null, .null, .null, .null, .null, .null] .null := f8_11.other W11 (od_co_cs)
  have f11_15 : Arv Z h11 b5 kpk .double (2 : Int32) [(.double f0), (.double f1)] (.double 0) := f8_15.other W11 ((Ne.symm ne_cs_b5))
  have f11_16 : Exa Z h11 b5 "[D" := f8_16.wr W11
  have N11 := Fr.snoc X11 N8 g_cs
  have Z11 : n0 ≤ h11.size := Nat.le_trans Z8 (Keep.of_wr W11).1
  have K11 : Keep h0 h11 [sx, co, cs] := K8.wr W11 (Or.inl (List.mem_of_getElem? (i := 2) rfl))
  refine own_go (A := oW p e below T11 (oF_add0 m 111 (oR sx) (oR pk) (od dc) .second [(.ref sx), (.ref sx)])) (fun t k => by
    refine XS.aloadN X11.here hx rfl (hb hby o722_109) rfl rfl ?_
    refine XS.dup X11.here hx rfl (hb hby o722_110) rfl rfl ?_
    exact k) ?_
  obtain ⟨T12, X12, e12, st12⟩ := getF X11 hx hZ hown (host := "") (Or.inl ow59) Via.refl e11 f11_2 (g := (oF_add0 m 111 (oR sx) (oR pk) (od dc) .second [(.ref sx), (.ref sx)])) rfl rfl (hb hby o722_111)
  refine own_go st12 ?_
  refine own_go (A := oW p e below T12 (oF_add0 m 117 (oR sx) (oR pk) (od dc) .second [(.int 1), (.ref sx), (.int 0)])) (fun t k => by
    refine XS.dupX1 X12.here hx rfl (hb hby o722_114) rfl rfl rfl ?_
    refine XS.iconst X12.here hx rfl (hb hby o722_115) ?_
    refine XS.iadd X12.here hx rfl (hb hby o722_116) rfl ?_
    exact k) ?_
  obtain ⟨T13, h13, X13, e13, W13, st13⟩ := putF X12 hx hZ hown (host := "") (Or.inl ow59) Via.refl e12 f11_2 (Gp0.keep K11) (Or.inl ow60) ow6 (ty := .int) (by decide) rfl rfl (g := (oF_add0 m 117 (oR sx) (oR pk) (od dc) .second [(.int 1), (.ref sx), (.int 0)])) rfl rfl (hb hby o722_117)
  refine own_go st13 ?_
  have f13_1 : Fld Z h13 sx "com/example/composure/composure/select/Simplex" "rows" "I" (.int 2) := f11_1.other W13 (Or.inr (slot_ne (Or.inr ow26) (Or.inl ow60) (by decide) (t := .int) (t' := .int) (by decide) (by decide)))
  have f13_2 : Fld Z h13 sx "com/example/composure/composure/select/Simplex" "count" "I" (.int 1) := f11_2.same W13
  have f13_3 : Fld Z h13 sx "com/example/composure/composure/select/Simplex" "columns" "[[D" (.ref co) := f11_3.other W13 (Or.inr (slot_ne (Or.inl ow17) (Or.inl ow60) (by decide) (t := (.array (.array .double))) (t' := .int) (by decide) (by decide)))
  have f13_4 : Fld Z h13 sx "com/example/composure/composure/select/Simplex" "costs" "[D" (.ref cs) := f11_4.other W13 (Or.inr (slot_ne (Or.inl ow19) (Or.inl ow60) (by decide) (t := (.array .double)) (t' := .int) (by decide) (by decide)))
  have f13_5 : Fld Z h13 sx "com/example/composure/composure/select/Simplex" "basic" "[Z" (.ref bc) := f11_5.other W13 (Or.inr (slot_ne (Or.inl ow24) (Or.inl ow60) (by decide) (t := (.array .boolean)) (t' := .int) (by decide) (by decide)))
  have f13_6 : Fld Z h13 sx "com/example/composure/composure/select/Simplex" "limits" "[D" (.ref li) := f11_6.other W13 (Or.inr (slot_ne (Or.inr ow36) (Or.inl ow60) (by decide) (t := (.array .double)) (t' := .int) (by decide) (by decide)))
  have f13_7 : Fld Z h13 sx "com/example/composure/composure/select/Simplex" "basis" "[I" (.ref ba) := f11_7.other W13 (Or.inr (slot_ne (Or.inr ow38) (Or.inl ow60) (by decide) (t := (.array .int)) (t' := .int) (by decide) (by decide)))
  have f13_8 : Fld Z h13 sx "com/example/composure/composure/select/Simplex" "inverse" "[[D" (.ref iv) := f11_8.other W13 (Or.inr (slot_ne (Or.inr ow41) (Or.inl ow60) (by decide) (t := (.array (.array .double))) (t' := .int) (by decide) (by decide)))
  have f13_9 : Fld Z h13 sx "com/example/composure/composure/select/Simplex" "values" "[D" (.ref vl) := f11_9.other W13 (Or.inr (slot_ne (Or.inr ow43) (Or.inl ow60) (by decide) (t := (.array .double)) (t' := .int) (by decide) (by decide)))
  have f13_10 : Fld Z h13 sx "com/example/composure/composure/select/Simplex" "elimination" "[[D" (.ref el) := f11_10.other W13 (Or.inr (slot_ne (Or.inr ow45) (Or.inl ow60) (by decide) (t := (.array (.array .double))) (t' := .int) (by decide) (by decide)))
  have f13_11 : Arv Z h13 co kco (.array .double) (16 : Int32) [(.ref b5), .null, .null, .null, .null, .null, .null, .null, .null, .null, .null, .null, .null, .null, .null, .null] .null := f11_11.other W13 (od_sx_co.symm)
  have f13_14 : Arv Z h13 b5 kpk .double (2 : Int32) [(.double f0), (.double f1)] (.double 0) := f11_15.other W13 ((Ne.symm ne_sx_b5))
  have f13_15 : Exa Z h13 b5 "[D" := f11_16.wr W13
  have f13_16 : Arv Z h13 cs kcs .double (16 : Int32) [(.double dc), (.double 0), (.double 0), (.double 0), (.double 0), (.double 0), (.double 0), (.double 0), (.double 0), (.double 0), (.double 0), (.double 0), (.double 0), (.double 0), (.double 0), (.double 0)] (.double 0) := V11.other W13 (od_sx_cs.symm)
  have N13 := Fr.snoc X13 N11 g_sx
  have Z13 : n0 ≤ h13.size := Nat.le_trans Z11 (Keep.of_wr W13).1
  have K13 : Keep h0 h13 [sx, co, cs] := K11.wr W13 (Or.inl (List.mem_of_getElem? (i := 0) rfl))
  obtain ⟨fs, hr, hrun, hended, hW, hsame⟩ := X13.leave (v := some (.int 0)) (fun h => by rw [Bd.returns] at h; cases h)
  refine ⟨_, _, retOut X13 hx Bd.returns rfl (Or.inl ⟨rfl, Or.inl rfl, _, rfl⟩) (hb hby o722_120) hr, hPf _ _ ⟨hrun, hended, _, _, rfl, ?_, ⟨_, rfl⟩, hW, hsame.mono (by decide) (by decide)⟩⟩
  show own_Q_add0 Z sx pk dc co cs bc li ba iv vl el kco kcs kpk f0 f1 h0 n0 _ T13.heap _
  rw [e13]
  exact ⟨b5, rfl, N13, K13, sz_b5, f13_1, f13_2, f13_3, f13_4, f13_5, f13_6, f13_7, f13_8, f13_9, f13_10, f13_11, f13_16, f13_14⟩
abbrev oF_add1 (m : MethodId) (pc : Nat) (a0 a1 a2 a3 : Slot) (S : List Value) : JFrame := mkF m pc #[a0, a1, a2, a3] S
theorem own_ef_add1 (m : MethodId) (x0 : Addr) (x1 : Addr) (x2 : UInt64) : entryFrame m #[(.ref x0), (.ref x1), (.double x2)] 4 = mkF m 0 #[(oR x0), (oR x1), (od x2), .second] [] := by first | (simp [entryFrame, mkF, argsToLocals, Value.category]; done) | rfl
def own_Q_add1 (Z : State) (sx : Addr) (pk : Addr) (dc : UInt64) (co cs bc li ba iv vl el ca : Addr) (kco kcs kpk : ClassId) (f0 f1 wk0 : UInt64) (h0 : Heap) (n0 : Nat) (v : Option Value) (h : Heap) (L : List Loc) : Prop := ∃ cn : Addr, v = some (.int 1) ∧ Fr n0 L ∧ Keep h0 h [sx, co, cs] ∧ h0.size ≤ cn ∧ Fld Z h sx "com/example/composure/composure/select/Simplex" "rows" "I" (.int 2) ∧ Fld Z h sx "com/example/composure/composure/select/Simplex" "count" "I" (.int 2) ∧ Fld Z h sx "com/example/composure/composure/select/Simplex" "columns" "[[D" (.ref co) ∧ Fld Z h sx "com/example/composure/composure/select/Simplex" "costs" "[D" (.ref cs) ∧ Fld Z h sx "com/example/composure/composure/select/Simplex" "basic" "[Z" (.ref bc) ∧ Fld Z h sx "com/example/composure/composure/select/Simplex" "limits" "[D" (.ref li) ∧ Fld Z h sx "com/example/composure/composure/select/Simplex" "basis" "[I" (.ref ba) ∧ Fld Z h sx "com/example/composure/composure/select/Simplex" "inverse" "[[D" (.ref iv) ∧ Fld Z h sx "com/example/composure/composure/select/Simplex" "values" "[D" (.ref vl) ∧ Fld Z h sx "com/example/composure/composure/select/Simplex" "elimination" "[[D" (.ref el) ∧ Arv Z h co kco (.array .double) (16 : Int32) [(.ref ca), (.ref cn), .null, .null, .null, .null, .null, .null, .null, .null, .null, .null, .null, .null, .null, .null] .null ∧ Arv Z h cs kcs .double (16 : Int32) [(.double wk0), (.double dc), (.double 0), (.double 0), (.double 0), (.double 0), (.double 0), (.double 0), (.double 0), (.double 0), (.double 0), (.double 0), (.double 0), (.double 0), (.double 0), (.double 0)] (.double 0) ∧ Arv Z h cn kpk .double (2 : Int32) [(.double f0), (.double f1)] (.double 0)
set_option maxRecDepth 65536 in
set_option maxHeartbeats 40000000 in
theorem own_rm_add1 (l : Launch) (Z : State) (a0 : Array Value) (hw : ∀ d ∈ tables_1, d.before a0 Z = true) (ws : List Jvm.Cond) (sx : Addr) (pk : Addr) (dc : UInt64) (co cs bc li ba iv vl el ca : Addr) (kco kcs kpk : ClassId) (f0 f1 wk0 : UInt64) (h0 : Heap) (n0 : Nat) (Z0 : n0 ≤ h0.size) (hnd : ([sx, co, cs, pk] : List Addr).Nodup) (g_sx : n0 ≤ sx) (g_co : n0 ≤ co) (g_cs : n0 ≤ cs) (Oco : OvrA Z kco .double "[D") (Gp0 : Exa Z h0 sx "com/example/composure/composure/select/Simplex") (Gp1 : Fld Z h0 sx "com/example/composure/composure/select/Simplex" "rows" "I" (.int 2)) (Gp2 : Fld Z h0 sx "com/example/composure/composure/select/Simplex" "count" "I" (.int 1)) (Gp3 : Fld Z h0 sx "com/example/composure/composure/select/Simplex" "columns" "[[D" (.ref co)) (Gp4 : Fld Z h0 sx "com/example/composure/composure/select/Simplex" "costs" "[D" (.ref cs)) (Gp5 : Fld Z h0 sx "com/example/composure/composure/select/Simplex" "basic" "[Z" (.ref bc)) (Gp6 : Fld Z h0 sx "com/example/composure/composure/select/Simplex" "limits" "[D" (.ref li)) (Gp7 : Fld Z h0 sx "com/example/composure/composure/select/Simplex" "basis" "[I" (.ref ba)) (Gp8 : Fld Z h0 sx "com/example/composure/composure/select/Simplex" "inverse" "[[D" (.ref iv)) (Gp9 : Fld Z h0 sx "com/example/composure/composure/select/Simplex" "values" "[D" (.ref vl)) (Gp10 : Fld Z h0 sx "com/example/composure/composure/select/Simplex" "elimination" "[[D" (.ref el)) (Gp11 : Arv Z h0 co kco (.array .double) (16 : Int32) [(.ref ca), .null, .null, .null, .null, .null, .null, .null, .null, .null, .null, .null, .null, .null, .null, .null] .null) (Gp12 : Arv Z h0 cs kcs .double (16 : Int32) [(.double wk0), (.double 0), (.double 0), (.double 0), (.double 0), (.double 0), (.double 0), (.double 0), (.double 0), (.double 0), (.double 0), (.double 0), (.double 0), (.double 0), (.double 0), (.double 0)] (.double 0)) (Gp13 : Arv Z h0 pk kpk .double (2 : Int32) [(.double f0), (.double f1)] (.double 0)) (Gp14 : Exa Z h0 pk "[D") :
    MetFree l (⟨"com/example/composure/composure/select/Simplex", "add", "([DD)I"⟩ : MethodName) (head1 (Jvm.Cond.code (⟨"com/example/composure/composure/select/Simplex", "add", "([DD)I"⟩ : MethodName) prog_72_method_2_code 4 (some .int) :: ws) ({ frames := 1, cells := 1, slots := 2, locals := 16 } : Room)) (fun a U => a = #[(.ref sx), (.ref pk), (.double dc)] ∧ Z.Warmed39 U.vm ∧ U.heap = h0) (fun _ _ _ _ _ => True) (fun _ U o U' => ∃ v L, o = .returned v ∧ own_Q_add1 Z sx pk dc co cs bc li ba iv vl el ca kco kcs kpk f0 f1 wk0 h0 n0 v U'.heap L ∧ FrameEnd U o U' L ({ frames := 1, cells := 1, slots := 2, locals := 16 } : Room).cells ({ frames := 1, cells := 1, slots := 2, locals := 16 } : Room).slots) := by
  refine MetFree.of_bodySF (plainFor_of_name own_pn_com_example_composure_composure_select_Simplex) hisR ?_
  intro p e s m args below meth c s₁ Bd hml0 hP hKq_
  obtain ⟨rfl, hZ, hh⟩ := hP
  have hx := Bd.exec
  have hby := Bd.bytes
  have hml : c.maxLocals = 4 := hml0
  have hown : s.vm.findClass "com/example/composure/composure/select/Simplex" = some m.cls := findClass_of_methodNamed Bd.named
  have hnm := (name_of_methodNamed Bd.named Bd.method).1
  have ow6 := hw _ (List.mem_of_getElem? (i := 6) rfl)
  have ow14 := hw _ (List.mem_of_getElem? (i := 14) rfl)
  have ow16 := hw _ (List.mem_of_getElem? (i := 16) rfl)
  have ow17 := hw _ (List.mem_of_getElem? (i := 17) rfl)
  have ow18 := hw _ (List.mem_of_getElem? (i := 18) rfl)
  have ow19 := hw _ (List.mem_of_getElem? (i := 19) rfl)
  have ow24 := hw _ (List.mem_of_getElem? (i := 24) rfl)
  have ow26 := hw _ (List.mem_of_getElem? (i := 26) rfl)
  have ow27 := hw _ (List.mem_of_getElem? (i := 27) rfl)
  have ow28 := hw _ (List.mem_of_getElem? (i := 28) rfl)
  have ow30 := hw _ (List.mem_of_getElem? (i := 30) rfl)
  have ow31 := hw _ (List.mem_of_getElem? (i := 31) rfl)
  have ow32 := hw _ (List.mem_of_getElem? (i := 32) rfl)
  have ow33 := hw _ (List.mem_of_getElem? (i := 33) rfl)
  have ow36 := hw _ (List.mem_of_getElem? (i := 36) rfl)
  have ow38 := hw _ (List.mem_of_getElem? (i := 38) rfl)
  have ow41 := hw _ (List.mem_of_getElem? (i := 41) rfl)
  have ow43 := hw _ (List.mem_of_getElem? (i := 43) rfl)
  have ow45 := hw _ (List.mem_of_getElem? (i := 45) rfl)
  have ow59 := hw _ (List.mem_of_getElem? (i := 59) rfl)
  have ow60 := hw _ (List.mem_of_getElem? (i := 60) rfl)
  have X0 : Stand p l e ({ frames := 1, cells := 1, slots := 2, locals := 16 } : Room) s m #[(.ref sx), (.ref pk), (.double dc)] below meth c s₁ [] 0 0 := Stand.of_body Bd
  have e0 : s₁.heap = h0 := by rw [← hh, Bd.state]; rfl
  have N0 := Fr.nil n0
  have pre0 : ∀ t, Steps p.tables e below (s₁.setTop (mkF m 0 #[(oR sx), (oR pk), (od dc), .second] [])) t → Steps p.tables e below (s₁.setTop (entryFrame m #[(.ref sx), (.ref pk), (.double dc)] 4)) t := fun t k => castTop (own_ef_add1 m sx pk dc) k
  refine own_go pre0 ?_
  refine own_abs ?_
  intro Pf hPf
  have od_sx_co : sx ≠ co := (own_nd hnd (i := 0) (j := 1) rfl rfl (by decide))
  have od_sx_cs : sx ≠ cs := (own_nd hnd (i := 0) (j := 2) rfl rfl (by decide))
  have od_co_cs : co ≠ cs := (own_nd hnd (i := 1) (j := 2) rfl rfl (by decide))
  have nn_pk : pk ∉ ([sx, co, cs] : List Addr) := (ninS (own_nd hnd (i := 3) (j := 0) rfl rfl (by decide)) (ninS (own_nd hnd (i := 3) (j := 1) rfl rfl (by decide)) (ninS (own_nd hnd (i := 3) (j := 2) rfl rfl (by decide)) nin0)))
  refine own_go (A := oW p e below s₁ (oF_add1 m 1 (oR sx) (oR pk) (od dc) .second [(.ref sx)])) (fun t k => by
    refine XS.aloadN X0.here hx rfl (hb hby o722_0) rfl rfl ?_
    exact k) ?_
  obtain ⟨T1, X1, e1, st1⟩ := getF X0 hx hZ hown (host := "") (Or.inl ow59) Via.refl e0 Gp2 (g := (oF_add1 m 1 (oR sx) (oR pk) (od dc) .second [(.ref sx)])) rfl rfl (hb hby o722_1)
  refine own_go st1 ?_
  refine own_go (A := oW p e below T1 (oF_add1 m 5 (oR sx) (oR pk) (od dc) .second [(.ref sx), (.int 1)])) (fun t k => by
    refine XS.aloadN X1.here hx rfl (hb hby o722_4) rfl rfl ?_
    exact k) ?_
  obtain ⟨T2, X2, e2, st2⟩ := getF X1 hx hZ hown (host := "") (Or.inl ow18) Via.refl e1 Gp4 (g := (oF_add1 m 5 (oR sx) (oR pk) (od dc) .second [(.ref sx), (.int 1)])) rfl rfl (hb hby o722_5)
  refine own_go st2 ?_
  refine own_go (A := oW p e below T2 (oF_add1 m 84 (oR sx) (oR pk) (od dc) .second [(.ref sx)])) (fun t k => by
    refine own_len2 X2 hx hZ e2 Gp12 (g := (oF_add1 m 8 (oR sx) (oR pk) (od dc) .second [(.ref cs), (.int 1)])) rfl rfl (hb hby o722_8) _ ?_
    refine XS.icmpYes X2.here hx rfl (pc0 := 9) (pc' := 83) rfl (hb hby o722_9) rfl (feq (by decide : ¬ ((1 : Int32) = (16 : Int32)))).2 (by decide) (by decide) ?_
    show oW p e below T2 (oF_add1 m 83 (oR sx) (oR pk) (od dc) .second []) _
    refine XS.aloadN X2.here hx rfl (hb hby o722_83) rfl rfl ?_
    exact k) ?_
  obtain ⟨T3, X3, e3, st3⟩ := getF X2 hx hZ hown (host := "") (Or.inl ow16) Via.refl e2 Gp3 (g := (oF_add1 m 84 (oR sx) (oR pk) (od dc) .second [(.ref sx)])) rfl rfl (hb hby o722_84)
  refine own_go st3 ?_
  refine own_go (A := oW p e below T3 (oF_add1 m 88 (oR sx) (oR pk) (od dc) .second [(.ref sx), (.ref co)])) (fun t k => by
    refine XS.aloadN X3.here hx rfl (hb hby o722_87) rfl rfl ?_
    exact k) ?_
  obtain ⟨T4, X4, e4, st4⟩ := getF X3 hx hZ hown (host := "") (Or.inl ow59) Via.refl e3 Gp2 (g := (oF_add1 m 88 (oR sx) (oR pk) (od dc) .second [(.ref sx), (.ref co)])) rfl rfl (hb hby o722_88)
  refine own_go st4 ?_
  refine own_go (A := oW p e below T4 (oF_add1 m 92 (oR sx) (oR pk) (od dc) .second [(.ref pk), (.int 1), (.ref co)])) (fun t k => by
    refine XS.aloadN X4.here hx rfl (hb hby o722_91) rfl rfl ?_
    exact k) ?_
  obtain ⟨T5, h5, X5, e5, E5, A5, Q5, st5⟩ := own_cloneV X4 hx hZ hown ow27 ow28 ow32 ow30 ow31 ow33 e4 Gp13 Gp14 (g := (oF_add1 m 92 (oR sx) (oR pk) (od dc) .second [(.ref pk), (.int 1), (.ref co)])) rfl (by rw [hml]; rfl) rfl (hb hby o722_92) (by decide) (W := 2) (by show 2 * 0 + _ ≤ _; exact Nat.le_of_eq rfl) (by decide) (cap := 2) (by decide) (by decide) (by decide)
  obtain ⟨b5, g5⟩ : ∃ z, z = h0.size := ⟨_, rfl⟩
  rw [← g5] at A5 Q5 st5
  refine own_go st5 ?_
  have ne_sx_b5 : sx ≠ b5 := Nat.ne_of_lt (Nat.lt_of_lt_of_le Gp0.lt (Nat.le_of_eq g5.symm))
  have ne_co_b5 : co ≠ b5 := Nat.ne_of_lt (Nat.lt_of_lt_of_le Gp11.lt (Nat.le_of_eq g5.symm))
  have ne_cs_b5 : cs ≠ b5 := Nat.ne_of_lt (Nat.lt_of_lt_of_le Gp12.lt (Nat.le_of_eq g5.symm))
  have ne_pk_b5 : pk ≠ b5 := Nat.ne_of_lt (Nat.lt_of_lt_of_le Gp13.lt (Nat.le_of_eq g5.symm))
  have g_b5 : n0 ≤ b5 := Nat.le_trans Z0 (Nat.le_of_eq g5.symm)
  have Z5 : n0 ≤ h5.size := Nat.le_trans Z0 E5.1
  have sz_b5 : h0.size ≤ b5 := Nat.le_trans (Keep.refl h0 [sx, co, cs]).1 (Nat.le_of_eq g5.symm)
  have K5 : Keep h0 h5 [sx, co, cs] := (Keep.refl h0 [sx, co, cs]).ext E5
  obtain ⟨T6, X6, e6, st6⟩ := castY X5 hx hZ hown ow14 e5 (Ins.self Q5) (g := (oF_add1 m 95 (oR sx) (oR pk) (od dc) .second [(.ref b5), (.int 1), (.ref co)])) rfl rfl (hb hby o722_95)
  refine own_go st6 ?_
  obtain ⟨cl7, Ar7, q7, S7, N7, H7, G7⟩ := id ((Gp11.ext E5))
  have hi7 : ¬ ((1 : Int32) < 0 ∨ cl7.slots.size ≤ ((1 : Int32)).toNatClampNeg) := inb_of S7 ⟨by decide, by decide⟩
  obtain ⟨T8, h8, X8, e8, W8, st8⟩ := stR X6 hx hZ e6 Ar7 (j := (1 : Int32)) hi7 rfl (Sto.ofVA Ar7 q7 Oco (Ins.self Q5)) (g := (oF_add1 m 98 (oR sx) (oR pk) (od dc) .second [(.ref b5), (.int 1), (.ref co)])) rfl rfl (hb hby o722_98)
  refine own_go st8 ?_
  have V8 : Arv Z h8 co kco (.array .double) (16 : Int32) [(.ref ca), (.ref b5), .null, .null, .null, .null, .null, .null, .null, .null, .null, .null, .null, .null, .null, .null] .null := Arv.set Ar7 q7 S7 N7 H7 G7 rfl W8 1 rfl (Nat.le_of_ble_eq_true rfl)
  have f8_1 : Fld Z h8 sx "com/example/composure/composure/select/Simplex" "rows" "I" (.int 2) := (Gp1.ext E5).other W8 (Or.inl od_sx_co)
  have f8_2 : Fld Z h8 sx "com/example/composure/composure/select/Simplex" "count" "I" (.int 1) := (Gp2.ext E5).other W8 (Or.inl od_sx_co)
  have f8_3 : Fld Z h8 sx "com/example/composure/composure/select/Simplex" "columns" "[[D" (.ref co) := (Gp3.ext E5).other W8 (Or.inl od_sx_co)
  have f8_4 : Fld Z h8 sx "com/example/composure/composure/select/Simplex" "costs" "[D" (.ref cs) := (Gp4.ext E5).other W8 (Or.inl od_sx_co)
  have f8_5 : Fld Z h8 sx "com/example/composure/composure/select/Simplex" "basic" "[Z" (.ref bc) := (Gp5.ext E5).other W8 (Or.inl od_sx_co)
  have f8_6 : Fld Z h8 sx "com/example/composure/composure/select/Simplex" "limits" "[D" (.ref li) := (Gp6.ext E5).other W8 (Or.inl od_sx_co)
  have f8_7 : Fld Z h8 sx "com/example/composure/composure/select/Simplex" "basis" "[I" (.ref ba) := (Gp7.ext E5).other W8 (Or.inl od_sx_co)
  have f8_8 : Fld Z h8 sx "com/example/composure/composure/select/Simplex" "inverse" "[[D" (.ref iv) := (Gp8.ext E5).other W8 (Or.inl od_sx_co)
  have f8_9 : Fld Z h8 sx "com/example/composure/composure/select/Simplex" "values" "[D" (.ref vl) := (Gp9.ext E5).other W8 (Or.inl od_sx_co)
  have f8_10 : Fld Z h8 sx "com/example/composure/composure/select/Simplex" "elimination" "[[D" (.ref el) := (Gp10.ext E5).other W8 (Or.inl od_sx_co)
  have f8_11 : Arv Z h8 co kco (.array .double) (16 : Int32) [(.ref ca), (.ref b5), .null, .null, .null, .null, .null, .null, .null, .null, .null, .null, .null, .null, .null, .null] .null := V8
  have f8_12 : Arv Z h8 cs kcs .double (16 : Int32) [(.double wk0), (.double 0), (.double 0), (.double 0), (.double 0), (.double 0), (.double 0), (.double 0), (.double 0), (.double 0), (.double 0), (.double 0), (.double 0), (.double 0), (.double 0), (.double 0)] (.double 0) := (Gp12.ext E5).other W8 (od_co_cs.symm)
  have f8_15 : Arv Z h8 b5 kpk .double (2 : Int32) [(.double f0), (.double f1)] (.double 0) := A5.other W8 ((Ne.symm ne_co_b5))
  have f8_16 : Exa Z h8 b5 "[D" := Q5.wr W8
  have N8 := Fr.snoc X8 N0 g_co
  have Z8 : n0 ≤ h8.size := Nat.le_trans Z5 (Keep.of_wr W8).1
  have K8 : Keep h0 h8 [sx, co, cs] := K5.wr W8 (Or.inl (List.mem_of_getElem? (i := 1) rfl))
  refine own_go (A := oW p e below T8 (oF_add1 m 100 (oR sx) (oR pk) (od dc) .second [(.ref sx)])) (fun t k => by
    refine XS.aloadN X8.here hx rfl (hb hby o722_99) rfl rfl ?_
    exact k) ?_
  obtain ⟨T9, X9, e9, st9⟩ := getF X8 hx hZ hown (host := "") (Or.inl ow18) Via.refl e8 f8_4 (g := (oF_add1 m 100 (oR sx) (oR pk) (od dc) .second [(.ref sx)])) rfl rfl (hb hby o722_100)
  refine own_go st9 ?_
  refine own_go (A := oW p e below T9 (oF_add1 m 104 (oR sx) (oR pk) (od dc) .second [(.ref sx), (.ref cs)])) (fun t k => by
    refine XS.aloadN X9.here hx rfl (hb hby o722_103) rfl rfl ?_
    exact k) ?_
  obtain ⟨T10, X10, e10, st10⟩ := getF X9 hx hZ hown (host := "") (Or.inl ow59) Via.refl e9 f8_2 (g := (oF_add1 m 104 (oR sx) (oR pk) (od dc) .second [(.ref sx), (.ref cs)])) rfl rfl (hb hby o722_104)
  refine own_go st10 ?_
  refine own_go (A := oW p e below T10 (oF_add1 m 108 (oR sx) (oR pk) (od dc) .second [(.double dc), (.int 1), (.ref cs)])) (fun t k => by
    refine XS.dloadN X10.here hx rfl (hb hby o722_107) rfl ?_
    exact k) ?_
  obtain ⟨T11, h11, X11, e11, W11, U11, st11⟩ := own_stD X10 hx hZ e10 f8_12 (j := (1 : Int32)) ⟨by decide, by decide⟩ 1 rfl (Nat.le_of_ble_eq_true rfl) (g := (oF_add1 m 108 (oR sx) (oR pk) (od dc) .second [(.double dc), (.int 1), (.ref cs)])) rfl rfl (hb hby o722_108)
  refine own_go st11 ?_
  have V11 : Arv Z h11 cs kcs .double (16 : Int32) [(.double wk0), (.double dc), (.double 0), (.double 0), (.double 0), (.double 0), (.double 0), (.double 0), (.double 0), (.double 0), (.double 0), (.double 0), (.double 0), (.double 0), (.double 0), (.double 0)] (.double 0) := U11
  have f11_1 : Fld Z h11 sx "com/example/composure/composure/select/Simplex" "rows" "I" (.int 2) := f8_1.other W11 (Or.inl od_sx_cs)
  have f11_2 : Fld Z h11 sx "com/example/composure/composure/select/Simplex" "count" "I" (.int 1) := f8_2.other W11 (Or.inl od_sx_cs)
  have f11_3 : Fld Z h11 sx "com/example/composure/composure/select/Simplex" "columns" "[[D" (.ref co) := f8_3.other W11 (Or.inl od_sx_cs)
  have f11_4 : Fld Z h11 sx "com/example/composure/composure/select/Simplex" "costs" "[D" (.ref cs) := f8_4.other W11 (Or.inl od_sx_cs)
  have f11_5 : Fld Z h11 sx "com/example/composure/composure/select/Simplex" "basic" "[Z" (.ref bc) := f8_5.other W11 (Or.inl od_sx_cs)
  have f11_6 : Fld Z h11 sx "com/example/composure/composure/select/Simplex" "limits" "[D" (.ref li) := f8_6.other W11 (Or.inl od_sx_cs)
  have f11_7 : Fld Z h11 sx "com/example/composure/composure/select/Simplex" "basis" "[I" (.ref ba) := f8_7.other W11 (Or.inl od_sx_cs)
  have f11_8 : Fld Z h11 sx "com/example/composure/composure/select/Simplex" "inverse" "[[D" (.ref iv) := f8_8.other W11 (Or.inl od_sx_cs)
  have f11_9 : Fld Z h11 sx "com/example/composure/composure/select/Simplex" "values" "[D" (.ref vl) := f8_9.other W11 (Or.inl od_sx_cs)
  have f11_10 : Fld Z h11 sx "com/example/composure/composure/select/Simplex" "elimination" "[[D" (.ref el) := f8_10.other W11 (Or.inl od_sx_cs)
  have f11_11 : Arv Z h11 co kco (.array .double) (16 : Int32) [(.ref ca), (.ref b5), .null, .null, .null, .null, .null, .null, .null, .null, .null, .null, .null, .null, .null, .null] .null := f8_11.other W11 (od_co_cs)
  have f11_15 : Arv Z h11 b5 kpk .double (2 : Int32) [(.double f0), (.double f1)] (.double 0) := f8_15.other W11 ((Ne.symm ne_cs_b5))
  have f11_16 : Exa Z h11 b5 "[D" := f8_16.wr W11
  have N11 := Fr.snoc X11 N8 g_cs
  have Z11 : n0 ≤ h11.size := Nat.le_trans Z8 (Keep.of_wr W11).1
  have K11 : Keep h0 h11 [sx, co, cs] := K8.wr W11 (Or.inl (List.mem_of_getElem? (i := 2) rfl))
  refine own_go (A := oW p e below T11 (oF_add1 m 111 (oR sx) (oR pk) (od dc) .second [(.ref sx), (.ref sx)])) (fun t k => by
    refine XS.aloadN X11.here hx rfl (hb hby o722_109) rfl rfl ?_
    refine XS.dup X11.here hx rfl (hb hby o722_110) rfl rfl ?_
    exact k) ?_
  obtain ⟨T12, X12, e12, st12⟩ := getF X11 hx hZ hown (host := "") (Or.inl ow59) Via.refl e11 f11_2 (g := (oF_add1 m 111 (oR sx) (oR pk) (od dc) .second [(.ref sx), (.ref sx)])) rfl rfl (hb hby o722_111)
  refine own_go st12 ?_
  refine own_go (A := oW p e below T12 (oF_add1 m 117 (oR sx) (oR pk) (od dc) .second [(.int 2), (.ref sx), (.int 1)])) (fun t k => by
    refine XS.dupX1 X12.here hx rfl (hb hby o722_114) rfl rfl rfl ?_
    refine XS.iconst X12.here hx rfl (hb hby o722_115) ?_
    refine XS.iadd X12.here hx rfl (hb hby o722_116) rfl ?_
    exact k) ?_
  obtain ⟨T13, h13, X13, e13, W13, st13⟩ := putF X12 hx hZ hown (host := "") (Or.inl ow59) Via.refl e12 f11_2 (Gp0.keep K11) (Or.inl ow60) ow6 (ty := .int) (by decide) rfl rfl (g := (oF_add1 m 117 (oR sx) (oR pk) (od dc) .second [(.int 2), (.ref sx), (.int 1)])) rfl rfl (hb hby o722_117)
  refine own_go st13 ?_
  have f13_1 : Fld Z h13 sx "com/example/composure/composure/select/Simplex" "rows" "I" (.int 2) := f11_1.other W13 (Or.inr (slot_ne (Or.inr ow26) (Or.inl ow60) (by decide) (t := .int) (t' := .int) (by decide) (by decide)))
  have f13_2 : Fld Z h13 sx "com/example/composure/composure/select/Simplex" "count" "I" (.int 2) := f11_2.same W13
  have f13_3 : Fld Z h13 sx "com/example/composure/composure/select/Simplex" "columns" "[[D" (.ref co) := f11_3.other W13 (Or.inr (slot_ne (Or.inl ow17) (Or.inl ow60) (by decide) (t := (.array (.array .double))) (t' := .int) (by decide) (by decide)))
  have f13_4 : Fld Z h13 sx "com/example/composure/composure/select/Simplex" "costs" "[D" (.ref cs) := f11_4.other W13 (Or.inr (slot_ne (Or.inl ow19) (Or.inl ow60) (by decide) (t := (.array .double)) (t' := .int) (by decide) (by decide)))
  have f13_5 : Fld Z h13 sx "com/example/composure/composure/select/Simplex" "basic" "[Z" (.ref bc) := f11_5.other W13 (Or.inr (slot_ne (Or.inl ow24) (Or.inl ow60) (by decide) (t := (.array .boolean)) (t' := .int) (by decide) (by decide)))
  have f13_6 : Fld Z h13 sx "com/example/composure/composure/select/Simplex" "limits" "[D" (.ref li) := f11_6.other W13 (Or.inr (slot_ne (Or.inr ow36) (Or.inl ow60) (by decide) (t := (.array .double)) (t' := .int) (by decide) (by decide)))
  have f13_7 : Fld Z h13 sx "com/example/composure/composure/select/Simplex" "basis" "[I" (.ref ba) := f11_7.other W13 (Or.inr (slot_ne (Or.inr ow38) (Or.inl ow60) (by decide) (t := (.array .int)) (t' := .int) (by decide) (by decide)))
  have f13_8 : Fld Z h13 sx "com/example/composure/composure/select/Simplex" "inverse" "[[D" (.ref iv) := f11_8.other W13 (Or.inr (slot_ne (Or.inr ow41) (Or.inl ow60) (by decide) (t := (.array (.array .double))) (t' := .int) (by decide) (by decide)))
  have f13_9 : Fld Z h13 sx "com/example/composure/composure/select/Simplex" "values" "[D" (.ref vl) := f11_9.other W13 (Or.inr (slot_ne (Or.inr ow43) (Or.inl ow60) (by decide) (t := (.array .double)) (t' := .int) (by decide) (by decide)))
  have f13_10 : Fld Z h13 sx "com/example/composure/composure/select/Simplex" "elimination" "[[D" (.ref el) := f11_10.other W13 (Or.inr (slot_ne (Or.inr ow45) (Or.inl ow60) (by decide) (t := (.array (.array .double))) (t' := .int) (by decide) (by decide)))
  have f13_11 : Arv Z h13 co kco (.array .double) (16 : Int32) [(.ref ca), (.ref b5), .null, .null, .null, .null, .null, .null, .null, .null, .null, .null, .null, .null, .null, .null] .null := f11_11.other W13 (od_sx_co.symm)
  have f13_14 : Arv Z h13 b5 kpk .double (2 : Int32) [(.double f0), (.double f1)] (.double 0) := f11_15.other W13 ((Ne.symm ne_sx_b5))
  have f13_15 : Exa Z h13 b5 "[D" := f11_16.wr W13
  have f13_16 : Arv Z h13 cs kcs .double (16 : Int32) [(.double wk0), (.double dc), (.double 0), (.double 0), (.double 0), (.double 0), (.double 0), (.double 0), (.double 0), (.double 0), (.double 0), (.double 0), (.double 0), (.double 0), (.double 0), (.double 0)] (.double 0) := V11.other W13 (od_sx_cs.symm)
  have N13 := Fr.snoc X13 N11 g_sx
  have Z13 : n0 ≤ h13.size := Nat.le_trans Z11 (Keep.of_wr W13).1
  have K13 : Keep h0 h13 [sx, co, cs] := K11.wr W13 (Or.inl (List.mem_of_getElem? (i := 0) rfl))
  obtain ⟨fs, hr, hrun, hended, hW, hsame⟩ := X13.leave (v := some (.int 1)) (fun h => by rw [Bd.returns] at h; cases h)
  refine ⟨_, _, retOut X13 hx Bd.returns rfl (Or.inl ⟨rfl, Or.inl rfl, _, rfl⟩) (hb hby o722_120) hr, hPf _ _ ⟨hrun, hended, _, _, rfl, ?_, ⟨_, rfl⟩, hW, hsame.mono (by decide) (by decide)⟩⟩
  show own_Q_add1 Z sx pk dc co cs bc li ba iv vl el ca kco kcs kpk f0 f1 wk0 h0 n0 _ T13.heap _
  rw [e13]
  exact ⟨b5, rfl, N13, K13, sz_b5, f13_1, f13_2, f13_3, f13_4, f13_5, f13_6, f13_7, f13_8, f13_9, f13_10, f13_11, f13_16, f13_14⟩
abbrev oF_add2 (m : MethodId) (pc : Nat) (a0 a1 a2 a3 : Slot) (S : List Value) : JFrame := mkF m pc #[a0, a1, a2, a3] S
theorem own_ef_add2 (m : MethodId) (x0 : Addr) (x1 : Addr) (x2 : UInt64) : entryFrame m #[(.ref x0), (.ref x1), (.double x2)] 4 = mkF m 0 #[(oR x0), (oR x1), (od x2), .second] [] := by first | (simp [entryFrame, mkF, argsToLocals, Value.category]; done) | rfl
def own_Q_add2 (Z : State) (sx : Addr) (pk : Addr) (dc : UInt64) (co cs bc li ba iv vl el ca cb : Addr) (kco kcs kpk : ClassId) (f0 f1 wk0 wk1 : UInt64) (h0 : Heap) (n0 : Nat) (v : Option Value) (h : Heap) (L : List Loc) : Prop := ∃ cn : Addr, v = some (.int 2) ∧ Fr n0 L ∧ Keep h0 h [sx, co, cs] ∧ h0.size ≤ cn ∧ Fld Z h sx "com/example/composure/composure/select/Simplex" "rows" "I" (.int 2) ∧ Fld Z h sx "com/example/composure/composure/select/Simplex" "count" "I" (.int 3) ∧ Fld Z h sx "com/example/composure/composure/select/Simplex" "columns" "[[D" (.ref co) ∧ Fld Z h sx "com/example/composure/composure/select/Simplex" "costs" "[D" (.ref cs) ∧ Fld Z h sx "com/example/composure/composure/select/Simplex" "basic" "[Z" (.ref bc) ∧ Fld Z h sx "com/example/composure/composure/select/Simplex" "limits" "[D" (.ref li) ∧ Fld Z h sx "com/example/composure/composure/select/Simplex" "basis" "[I" (.ref ba) ∧ Fld Z h sx "com/example/composure/composure/select/Simplex" "inverse" "[[D" (.ref iv) ∧ Fld Z h sx "com/example/composure/composure/select/Simplex" "values" "[D" (.ref vl) ∧ Fld Z h sx "com/example/composure/composure/select/Simplex" "elimination" "[[D" (.ref el) ∧ Arv Z h co kco (.array .double) (16 : Int32) [(.ref ca), (.ref cb), (.ref cn), .null, .null, .null, .null, .null, .null, .null, .null, .null, .null, .null, .null, .null] .null ∧ Arv Z h cs kcs .double (16 : Int32) [(.double wk0), (.double wk1), (.double dc), (.double 0), (.double 0), (.double 0), (.double 0), (.double 0), (.double 0), (.double 0), (.double 0), (.double 0), (.double 0), (.double 0), (.double 0), (.double 0)] (.double 0) ∧ Arv Z h cn kpk .double (2 : Int32) [(.double f0), (.double f1)] (.double 0)
set_option maxRecDepth 65536 in
set_option maxHeartbeats 40000000 in
theorem own_rm_add2 (l : Launch) (Z : State) (a0 : Array Value) (hw : ∀ d ∈ tables_1, d.before a0 Z = true) (ws : List Jvm.Cond) (sx : Addr) (pk : Addr) (dc : UInt64) (co cs bc li ba iv vl el ca cb : Addr) (kco kcs kpk : ClassId) (f0 f1 wk0 wk1 : UInt64) (h0 : Heap) (n0 : Nat) (Z0 : n0 ≤ h0.size) (hnd : ([sx, co, cs, pk] : List Addr).Nodup) (g_sx : n0 ≤ sx) (g_co : n0 ≤ co) (g_cs : n0 ≤ cs) (Oco : OvrA Z kco .double "[D") (Gp0 : Exa Z h0 sx "com/example/composure/composure/select/Simplex") (Gp1 : Fld Z h0 sx "com/example/composure/composure/select/Simplex" "rows" "I" (.int 2)) (Gp2 : Fld Z h0 sx "com/example/composure/composure/select/Simplex" "count" "I" (.int 2)) (Gp3 : Fld Z h0 sx "com/example/composure/composure/select/Simplex" "columns" "[[D" (.ref co)) (Gp4 : Fld Z h0 sx "com/example/composure/composure/select/Simplex" "costs" "[D" (.ref cs)) (Gp5 : Fld Z h0 sx "com/example/composure/composure/select/Simplex" "basic" "[Z" (.ref bc)) (Gp6 : Fld Z h0 sx "com/example/composure/composure/select/Simplex" "limits" "[D" (.ref li)) (Gp7 : Fld Z h0 sx "com/example/composure/composure/select/Simplex" "basis" "[I" (.ref ba)) (Gp8 : Fld Z h0 sx "com/example/composure/composure/select/Simplex" "inverse" "[[D" (.ref iv)) (Gp9 : Fld Z h0 sx "com/example/composure/composure/select/Simplex" "values" "[D" (.ref vl)) (Gp10 : Fld Z h0 sx "com/example/composure/composure/select/Simplex" "elimination" "[[D" (.ref el)) (Gp11 : Arv Z h0 co kco (.array .double) (16 : Int32) [(.ref ca), (.ref cb), .null, .null, .null, .null, .null, .null, .null, .null, .null, .null, .null, .null, .null, .null] .null) (Gp12 : Arv Z h0 cs kcs .double (16 : Int32) [(.double wk0), (.double wk1), (.double 0), (.double 0), (.double 0), (.double 0), (.double 0), (.double 0), (.double 0), (.double 0), (.double 0), (.double 0), (.double 0), (.double 0), (.double 0), (.double 0)] (.double 0)) (Gp13 : Arv Z h0 pk kpk .double (2 : Int32) [(.double f0), (.double f1)] (.double 0)) (Gp14 : Exa Z h0 pk "[D") :
    MetFree l (⟨"com/example/composure/composure/select/Simplex", "add", "([DD)I"⟩ : MethodName) (head1 (Jvm.Cond.code (⟨"com/example/composure/composure/select/Simplex", "add", "([DD)I"⟩ : MethodName) prog_72_method_2_code 4 (some .int) :: ws) ({ frames := 1, cells := 1, slots := 2, locals := 16 } : Room)) (fun a U => a = #[(.ref sx), (.ref pk), (.double dc)] ∧ Z.Warmed39 U.vm ∧ U.heap = h0) (fun _ _ _ _ _ => True) (fun _ U o U' => ∃ v L, o = .returned v ∧ own_Q_add2 Z sx pk dc co cs bc li ba iv vl el ca cb kco kcs kpk f0 f1 wk0 wk1 h0 n0 v U'.heap L ∧ FrameEnd U o U' L ({ frames := 1, cells := 1, slots := 2, locals := 16 } : Room).cells ({ frames := 1, cells := 1, slots := 2, locals := 16 } : Room).slots) := by
  refine MetFree.of_bodySF (plainFor_of_name own_pn_com_example_composure_composure_select_Simplex) hisR ?_
  intro p e s m args below meth c s₁ Bd hml0 hP hKq_
  obtain ⟨rfl, hZ, hh⟩ := hP
  have hx := Bd.exec
  have hby := Bd.bytes
  have hml : c.maxLocals = 4 := hml0
  have hown : s.vm.findClass "com/example/composure/composure/select/Simplex" = some m.cls := findClass_of_methodNamed Bd.named
  have hnm := (name_of_methodNamed Bd.named Bd.method).1
  have ow6 := hw _ (List.mem_of_getElem? (i := 6) rfl)
  have ow14 := hw _ (List.mem_of_getElem? (i := 14) rfl)
  have ow16 := hw _ (List.mem_of_getElem? (i := 16) rfl)
  have ow17 := hw _ (List.mem_of_getElem? (i := 17) rfl)
  have ow18 := hw _ (List.mem_of_getElem? (i := 18) rfl)
  have ow19 := hw _ (List.mem_of_getElem? (i := 19) rfl)
  have ow24 := hw _ (List.mem_of_getElem? (i := 24) rfl)
  have ow26 := hw _ (List.mem_of_getElem? (i := 26) rfl)
  have ow27 := hw _ (List.mem_of_getElem? (i := 27) rfl)
  have ow28 := hw _ (List.mem_of_getElem? (i := 28) rfl)
  have ow30 := hw _ (List.mem_of_getElem? (i := 30) rfl)
  have ow31 := hw _ (List.mem_of_getElem? (i := 31) rfl)
  have ow32 := hw _ (List.mem_of_getElem? (i := 32) rfl)
  have ow33 := hw _ (List.mem_of_getElem? (i := 33) rfl)
  have ow36 := hw _ (List.mem_of_getElem? (i := 36) rfl)
  have ow38 := hw _ (List.mem_of_getElem? (i := 38) rfl)
  have ow41 := hw _ (List.mem_of_getElem? (i := 41) rfl)
  have ow43 := hw _ (List.mem_of_getElem? (i := 43) rfl)
  have ow45 := hw _ (List.mem_of_getElem? (i := 45) rfl)
  have ow59 := hw _ (List.mem_of_getElem? (i := 59) rfl)
  have ow60 := hw _ (List.mem_of_getElem? (i := 60) rfl)
  have X0 : Stand p l e ({ frames := 1, cells := 1, slots := 2, locals := 16 } : Room) s m #[(.ref sx), (.ref pk), (.double dc)] below meth c s₁ [] 0 0 := Stand.of_body Bd
  have e0 : s₁.heap = h0 := by rw [← hh, Bd.state]; rfl
  have N0 := Fr.nil n0
  have pre0 : ∀ t, Steps p.tables e below (s₁.setTop (mkF m 0 #[(oR sx), (oR pk), (od dc), .second] [])) t → Steps p.tables e below (s₁.setTop (entryFrame m #[(.ref sx), (.ref pk), (.double dc)] 4)) t := fun t k => castTop (own_ef_add2 m sx pk dc) k
  refine own_go pre0 ?_
  refine own_abs ?_
  intro Pf hPf
  have od_sx_co : sx ≠ co := (own_nd hnd (i := 0) (j := 1) rfl rfl (by decide))
  have od_sx_cs : sx ≠ cs := (own_nd hnd (i := 0) (j := 2) rfl rfl (by decide))
  have od_co_cs : co ≠ cs := (own_nd hnd (i := 1) (j := 2) rfl rfl (by decide))
  have nn_pk : pk ∉ ([sx, co, cs] : List Addr) := (ninS (own_nd hnd (i := 3) (j := 0) rfl rfl (by decide)) (ninS (own_nd hnd (i := 3) (j := 1) rfl rfl (by decide)) (ninS (own_nd hnd (i := 3) (j := 2) rfl rfl (by decide)) nin0)))
  refine own_go (A := oW p e below s₁ (oF_add2 m 1 (oR sx) (oR pk) (od dc) .second [(.ref sx)])) (fun t k => by
    refine XS.aloadN X0.here hx rfl (hb hby o722_0) rfl rfl ?_
    exact k) ?_
  obtain ⟨T1, X1, e1, st1⟩ := getF X0 hx hZ hown (host := "") (Or.inl ow59) Via.refl e0 Gp2 (g := (oF_add2 m 1 (oR sx) (oR pk) (od dc) .second [(.ref sx)])) rfl rfl (hb hby o722_1)
  refine own_go st1 ?_
  refine own_go (A := oW p e below T1 (oF_add2 m 5 (oR sx) (oR pk) (od dc) .second [(.ref sx), (.int 2)])) (fun t k => by
    refine XS.aloadN X1.here hx rfl (hb hby o722_4) rfl rfl ?_
    exact k) ?_
  obtain ⟨T2, X2, e2, st2⟩ := getF X1 hx hZ hown (host := "") (Or.inl ow18) Via.refl e1 Gp4 (g := (oF_add2 m 5 (oR sx) (oR pk) (od dc) .second [(.ref sx), (.int 2)])) rfl rfl (hb hby o722_5)
  refine own_go st2 ?_
  refine own_go (A := oW p e below T2 (oF_add2 m 84 (oR sx) (oR pk) (od dc) .second [(.ref sx)])) (fun t k => by
    refine own_len2 X2 hx hZ e2 Gp12 (g := (oF_add2 m 8 (oR sx) (oR pk) (od dc) .second [(.ref cs), (.int 2)])) rfl rfl (hb hby o722_8) _ ?_
    refine XS.icmpYes X2.here hx rfl (pc0 := 9) (pc' := 83) rfl (hb hby o722_9) rfl (feq (by decide : ¬ ((2 : Int32) = (16 : Int32)))).2 (by decide) (by decide) ?_
    show oW p e below T2 (oF_add2 m 83 (oR sx) (oR pk) (od dc) .second []) _
    refine XS.aloadN X2.here hx rfl (hb hby o722_83) rfl rfl ?_
    exact k) ?_
  obtain ⟨T3, X3, e3, st3⟩ := getF X2 hx hZ hown (host := "") (Or.inl ow16) Via.refl e2 Gp3 (g := (oF_add2 m 84 (oR sx) (oR pk) (od dc) .second [(.ref sx)])) rfl rfl (hb hby o722_84)
  refine own_go st3 ?_
  refine own_go (A := oW p e below T3 (oF_add2 m 88 (oR sx) (oR pk) (od dc) .second [(.ref sx), (.ref co)])) (fun t k => by
    refine XS.aloadN X3.here hx rfl (hb hby o722_87) rfl rfl ?_
    exact k) ?_
  obtain ⟨T4, X4, e4, st4⟩ := getF X3 hx hZ hown (host := "") (Or.inl ow59) Via.refl e3 Gp2 (g := (oF_add2 m 88 (oR sx) (oR pk) (od dc) .second [(.ref sx), (.ref co)])) rfl rfl (hb hby o722_88)
  refine own_go st4 ?_
  refine own_go (A := oW p e below T4 (oF_add2 m 92 (oR sx) (oR pk) (od dc) .second [(.ref pk), (.int 2), (.ref co)])) (fun t k => by
    refine XS.aloadN X4.here hx rfl (hb hby o722_91) rfl rfl ?_
    exact k) ?_
  obtain ⟨T5, h5, X5, e5, E5, A5, Q5, st5⟩ := own_cloneV X4 hx hZ hown ow27 ow28 ow32 ow30 ow31 ow33 e4 Gp13 Gp14 (g := (oF_add2 m 92 (oR sx) (oR pk) (od dc) .second [(.ref pk), (.int 2), (.ref co)])) rfl (by rw [hml]; rfl) rfl (hb hby o722_92) (by decide) (W := 2) (by show 2 * 0 + _ ≤ _; exact Nat.le_of_eq rfl) (by decide) (cap := 2) (by decide) (by decide) (by decide)
  obtain ⟨b5, g5⟩ : ∃ z, z = h0.size := ⟨_, rfl⟩
  rw [← g5] at A5 Q5 st5
  refine own_go st5 ?_
  have ne_sx_b5 : sx ≠ b5 := Nat.ne_of_lt (Nat.lt_of_lt_of_le Gp0.lt (Nat.le_of_eq g5.symm))
  have ne_co_b5 : co ≠ b5 := Nat.ne_of_lt (Nat.lt_of_lt_of_le Gp11.lt (Nat.le_of_eq g5.symm))
  have ne_cs_b5 : cs ≠ b5 := Nat.ne_of_lt (Nat.lt_of_lt_of_le Gp12.lt (Nat.le_of_eq g5.symm))
  have ne_pk_b5 : pk ≠ b5 := Nat.ne_of_lt (Nat.lt_of_lt_of_le Gp13.lt (Nat.le_of_eq g5.symm))
  have g_b5 : n0 ≤ b5 := Nat.le_trans Z0 (Nat.le_of_eq g5.symm)
  have Z5 : n0 ≤ h5.size := Nat.le_trans Z0 E5.1
  have sz_b5 : h0.size ≤ b5 := Nat.le_trans (Keep.refl h0 [sx, co, cs]).1 (Nat.le_of_eq g5.symm)
  have K5 : Keep h0 h5 [sx, co, cs] := (Keep.refl h0 [sx, co, cs]).ext E5
  obtain ⟨T6, X6, e6, st6⟩ := castY X5 hx hZ hown ow14 e5 (Ins.self Q5) (g := (oF_add2 m 95 (oR sx) (oR pk) (od dc) .second [(.ref b5), (.int 2), (.ref co)])) rfl rfl (hb hby o722_95)
  refine own_go st6 ?_
  obtain ⟨cl7, Ar7, q7, S7, N7, H7, G7⟩ := id ((Gp11.ext E5))
  have hi7 : ¬ ((2 : Int32) < 0 ∨ cl7.slots.size ≤ ((2 : Int32)).toNatClampNeg) := inb_of S7 ⟨by decide, by decide⟩
  obtain ⟨T8, h8, X8, e8, W8, st8⟩ := stR X6 hx hZ e6 Ar7 (j := (2 : Int32)) hi7 rfl (Sto.ofVA Ar7 q7 Oco (Ins.self Q5)) (g := (oF_add2 m 98 (oR sx) (oR pk) (od dc) .second [(.ref b5), (.int 2), (.ref co)])) rfl rfl (hb hby o722_98)
  refine own_go st8 ?_
  have V8 : Arv Z h8 co kco (.array .double) (16 : Int32) [(.ref ca), (.ref cb), (.ref b5), .null, .null, .null, .null, .null, .null, .null, .null, .null, .null, .null, .null, .null] .null := Arv.set Ar7 q7 S7 N7 H7 G7 rfl W8 2 rfl (Nat.le_of_ble_eq_true rfl)
  have f8_1 : Fld Z h8 sx "com/example/composure/composure/select/Simplex" "rows" "I" (.int 2) := (Gp1.ext E5).other W8 (Or.inl od_sx_co)
  have f8_2 : Fld Z h8 sx "com/example/composure/composure/select/Simplex" "count" "I" (.int 2) := (Gp2.ext E5).other W8 (Or.inl od_sx_co)
  have f8_3 : Fld Z h8 sx "com/example/composure/composure/select/Simplex" "columns" "[[D" (.ref co) := (Gp3.ext E5).other W8 (Or.inl od_sx_co)
  have f8_4 : Fld Z h8 sx "com/example/composure/composure/select/Simplex" "costs" "[D" (.ref cs) := (Gp4.ext E5).other W8 (Or.inl od_sx_co)
  have f8_5 : Fld Z h8 sx "com/example/composure/composure/select/Simplex" "basic" "[Z" (.ref bc) := (Gp5.ext E5).other W8 (Or.inl od_sx_co)
  have f8_6 : Fld Z h8 sx "com/example/composure/composure/select/Simplex" "limits" "[D" (.ref li) := (Gp6.ext E5).other W8 (Or.inl od_sx_co)
  have f8_7 : Fld Z h8 sx "com/example/composure/composure/select/Simplex" "basis" "[I" (.ref ba) := (Gp7.ext E5).other W8 (Or.inl od_sx_co)
  have f8_8 : Fld Z h8 sx "com/example/composure/composure/select/Simplex" "inverse" "[[D" (.ref iv) := (Gp8.ext E5).other W8 (Or.inl od_sx_co)
  have f8_9 : Fld Z h8 sx "com/example/composure/composure/select/Simplex" "values" "[D" (.ref vl) := (Gp9.ext E5).other W8 (Or.inl od_sx_co)
  have f8_10 : Fld Z h8 sx "com/example/composure/composure/select/Simplex" "elimination" "[[D" (.ref el) := (Gp10.ext E5).other W8 (Or.inl od_sx_co)
  have f8_11 : Arv Z h8 co kco (.array .double) (16 : Int32) [(.ref ca), (.ref cb), (.ref b5), .null, .null, .null, .null, .null, .null, .null, .null, .null, .null, .null, .null, .null] .null := V8
  have f8_12 : Arv Z h8 cs kcs .double (16 : Int32) [(.double wk0), (.double wk1), (.double 0), (.double 0), (.double 0), (.double 0), (.double 0), (.double 0), (.double 0), (.double 0), (.double 0), (.double 0), (.double 0), (.double 0), (.double 0), (.double 0)] (.double 0) := (Gp12.ext E5).other W8 (od_co_cs.symm)
  have f8_15 : Arv Z h8 b5 kpk .double (2 : Int32) [(.double f0), (.double f1)] (.double 0) := A5.other W8 ((Ne.symm ne_co_b5))
  have f8_16 : Exa Z h8 b5 "[D" := Q5.wr W8
  have N8 := Fr.snoc X8 N0 g_co
  have Z8 : n0 ≤ h8.size := Nat.le_trans Z5 (Keep.of_wr W8).1
  have K8 : Keep h0 h8 [sx, co, cs] := K5.wr W8 (Or.inl (List.mem_of_getElem? (i := 1) rfl))
  refine own_go (A := oW p e below T8 (oF_add2 m 100 (oR sx) (oR pk) (od dc) .second [(.ref sx)])) (fun t k => by
    refine XS.aloadN X8.here hx rfl (hb hby o722_99) rfl rfl ?_
    exact k) ?_
  obtain ⟨T9, X9, e9, st9⟩ := getF X8 hx hZ hown (host := "") (Or.inl ow18) Via.refl e8 f8_4 (g := (oF_add2 m 100 (oR sx) (oR pk) (od dc) .second [(.ref sx)])) rfl rfl (hb hby o722_100)
  refine own_go st9 ?_
  refine own_go (A := oW p e below T9 (oF_add2 m 104 (oR sx) (oR pk) (od dc) .second [(.ref sx), (.ref cs)])) (fun t k => by
    refine XS.aloadN X9.here hx rfl (hb hby o722_103) rfl rfl ?_
    exact k) ?_
  obtain ⟨T10, X10, e10, st10⟩ := getF X9 hx hZ hown (host := "") (Or.inl ow59) Via.refl e9 f8_2 (g := (oF_add2 m 104 (oR sx) (oR pk) (od dc) .second [(.ref sx), (.ref cs)])) rfl rfl (hb hby o722_104)
  refine own_go st10 ?_
  refine own_go (A := oW p e below T10 (oF_add2 m 108 (oR sx) (oR pk) (od dc) .second [(.double dc), (.int 2), (.ref cs)])) (fun t k => by
    refine XS.dloadN X10.here hx rfl (hb hby o722_107) rfl ?_
    exact k) ?_
  obtain ⟨T11, h11, X11, e11, W11, U11, st11⟩ := own_stD X10 hx hZ e10 f8_12 (j := (2 : Int32)) ⟨by decide, by decide⟩ 2 rfl (Nat.le_of_ble_eq_true rfl) (g := (oF_add2 m 108 (oR sx) (oR pk) (od dc) .second [(.double dc), (.int 2), (.ref cs)])) rfl rfl (hb hby o722_108)
  refine own_go st11 ?_
  have V11 : Arv Z h11 cs kcs .double (16 : Int32) [(.double wk0), (.double wk1), (.double dc), (.double 0), (.double 0), (.double 0), (.double 0), (.double 0), (.double 0), (.double 0), (.double 0), (.double 0), (.double 0), (.double 0), (.double 0), (.double 0)] (.double 0) := U11
  have f11_1 : Fld Z h11 sx "com/example/composure/composure/select/Simplex" "rows" "I" (.int 2) := f8_1.other W11 (Or.inl od_sx_cs)
  have f11_2 : Fld Z h11 sx "com/example/composure/composure/select/Simplex" "count" "I" (.int 2) := f8_2.other W11 (Or.inl od_sx_cs)
  have f11_3 : Fld Z h11 sx "com/example/composure/composure/select/Simplex" "columns" "[[D" (.ref co) := f8_3.other W11 (Or.inl od_sx_cs)
  have f11_4 : Fld Z h11 sx "com/example/composure/composure/select/Simplex" "costs" "[D" (.ref cs) := f8_4.other W11 (Or.inl od_sx_cs)
  have f11_5 : Fld Z h11 sx "com/example/composure/composure/select/Simplex" "basic" "[Z" (.ref bc) := f8_5.other W11 (Or.inl od_sx_cs)
  have f11_6 : Fld Z h11 sx "com/example/composure/composure/select/Simplex" "limits" "[D" (.ref li) := f8_6.other W11 (Or.inl od_sx_cs)
  have f11_7 : Fld Z h11 sx "com/example/composure/composure/select/Simplex" "basis" "[I" (.ref ba) := f8_7.other W11 (Or.inl od_sx_cs)
  have f11_8 : Fld Z h11 sx "com/example/composure/composure/select/Simplex" "inverse" "[[D" (.ref iv) := f8_8.other W11 (Or.inl od_sx_cs)
  have f11_9 : Fld Z h11 sx "com/example/composure/composure/select/Simplex" "values" "[D" (.ref vl) := f8_9.other W11 (Or.inl od_sx_cs)
  have f11_10 : Fld Z h11 sx "com/example/composure/composure/select/Simplex" "elimination" "[[D" (.ref el) := f8_10.other W11 (Or.inl od_sx_cs)
  have f11_11 : Arv Z h11 co kco (.array .double) (16 : Int32) [(.ref ca), (.ref cb), (.ref b5), .null, .null, .null, .null, .null, .null, .null, .null, .null, .null, .null, .null, .null] .null := f8_11.other W11 (od_co_cs)
  have f11_15 : Arv Z h11 b5 kpk .double (2 : Int32) [(.double f0), (.double f1)] (.double 0) := f8_15.other W11 ((Ne.symm ne_cs_b5))
  have f11_16 : Exa Z h11 b5 "[D" := f8_16.wr W11
  have N11 := Fr.snoc X11 N8 g_cs
  have Z11 : n0 ≤ h11.size := Nat.le_trans Z8 (Keep.of_wr W11).1
  have K11 : Keep h0 h11 [sx, co, cs] := K8.wr W11 (Or.inl (List.mem_of_getElem? (i := 2) rfl))
  refine own_go (A := oW p e below T11 (oF_add2 m 111 (oR sx) (oR pk) (od dc) .second [(.ref sx), (.ref sx)])) (fun t k => by
    refine XS.aloadN X11.here hx rfl (hb hby o722_109) rfl rfl ?_
    refine XS.dup X11.here hx rfl (hb hby o722_110) rfl rfl ?_
    exact k) ?_
  obtain ⟨T12, X12, e12, st12⟩ := getF X11 hx hZ hown (host := "") (Or.inl ow59) Via.refl e11 f11_2 (g := (oF_add2 m 111 (oR sx) (oR pk) (od dc) .second [(.ref sx), (.ref sx)])) rfl rfl (hb hby o722_111)
  refine own_go st12 ?_
  refine own_go (A := oW p e below T12 (oF_add2 m 117 (oR sx) (oR pk) (od dc) .second [(.int 3), (.ref sx), (.int 2)])) (fun t k => by
    refine XS.dupX1 X12.here hx rfl (hb hby o722_114) rfl rfl rfl ?_
    refine XS.iconst X12.here hx rfl (hb hby o722_115) ?_
    refine XS.iadd X12.here hx rfl (hb hby o722_116) rfl ?_
    exact k) ?_
  obtain ⟨T13, h13, X13, e13, W13, st13⟩ := putF X12 hx hZ hown (host := "") (Or.inl ow59) Via.refl e12 f11_2 (Gp0.keep K11) (Or.inl ow60) ow6 (ty := .int) (by decide) rfl rfl (g := (oF_add2 m 117 (oR sx) (oR pk) (od dc) .second [(.int 3), (.ref sx), (.int 2)])) rfl rfl (hb hby o722_117)
  refine own_go st13 ?_
  have f13_1 : Fld Z h13 sx "com/example/composure/composure/select/Simplex" "rows" "I" (.int 2) := f11_1.other W13 (Or.inr (slot_ne (Or.inr ow26) (Or.inl ow60) (by decide) (t := .int) (t' := .int) (by decide) (by decide)))
  have f13_2 : Fld Z h13 sx "com/example/composure/composure/select/Simplex" "count" "I" (.int 3) := f11_2.same W13
  have f13_3 : Fld Z h13 sx "com/example/composure/composure/select/Simplex" "columns" "[[D" (.ref co) := f11_3.other W13 (Or.inr (slot_ne (Or.inl ow17) (Or.inl ow60) (by decide) (t := (.array (.array .double))) (t' := .int) (by decide) (by decide)))
  have f13_4 : Fld Z h13 sx "com/example/composure/composure/select/Simplex" "costs" "[D" (.ref cs) := f11_4.other W13 (Or.inr (slot_ne (Or.inl ow19) (Or.inl ow60) (by decide) (t := (.array .double)) (t' := .int) (by decide) (by decide)))
  have f13_5 : Fld Z h13 sx "com/example/composure/composure/select/Simplex" "basic" "[Z" (.ref bc) := f11_5.other W13 (Or.inr (slot_ne (Or.inl ow24) (Or.inl ow60) (by decide) (t := (.array .boolean)) (t' := .int) (by decide) (by decide)))
  have f13_6 : Fld Z h13 sx "com/example/composure/composure/select/Simplex" "limits" "[D" (.ref li) := f11_6.other W13 (Or.inr (slot_ne (Or.inr ow36) (Or.inl ow60) (by decide) (t := (.array .double)) (t' := .int) (by decide) (by decide)))
  have f13_7 : Fld Z h13 sx "com/example/composure/composure/select/Simplex" "basis" "[I" (.ref ba) := f11_7.other W13 (Or.inr (slot_ne (Or.inr ow38) (Or.inl ow60) (by decide) (t := (.array .int)) (t' := .int) (by decide) (by decide)))
  have f13_8 : Fld Z h13 sx "com/example/composure/composure/select/Simplex" "inverse" "[[D" (.ref iv) := f11_8.other W13 (Or.inr (slot_ne (Or.inr ow41) (Or.inl ow60) (by decide) (t := (.array (.array .double))) (t' := .int) (by decide) (by decide)))
  have f13_9 : Fld Z h13 sx "com/example/composure/composure/select/Simplex" "values" "[D" (.ref vl) := f11_9.other W13 (Or.inr (slot_ne (Or.inr ow43) (Or.inl ow60) (by decide) (t := (.array .double)) (t' := .int) (by decide) (by decide)))
  have f13_10 : Fld Z h13 sx "com/example/composure/composure/select/Simplex" "elimination" "[[D" (.ref el) := f11_10.other W13 (Or.inr (slot_ne (Or.inr ow45) (Or.inl ow60) (by decide) (t := (.array (.array .double))) (t' := .int) (by decide) (by decide)))
  have f13_11 : Arv Z h13 co kco (.array .double) (16 : Int32) [(.ref ca), (.ref cb), (.ref b5), .null, .null, .null, .null, .null, .null, .null, .null, .null, .null, .null, .null, .null] .null := f11_11.other W13 (od_sx_co.symm)
  have f13_14 : Arv Z h13 b5 kpk .double (2 : Int32) [(.double f0), (.double f1)] (.double 0) := f11_15.other W13 ((Ne.symm ne_sx_b5))
  have f13_15 : Exa Z h13 b5 "[D" := f11_16.wr W13
  have f13_16 : Arv Z h13 cs kcs .double (16 : Int32) [(.double wk0), (.double wk1), (.double dc), (.double 0), (.double 0), (.double 0), (.double 0), (.double 0), (.double 0), (.double 0), (.double 0), (.double 0), (.double 0), (.double 0), (.double 0), (.double 0)] (.double 0) := V11.other W13 (od_sx_cs.symm)
  have N13 := Fr.snoc X13 N11 g_sx
  have Z13 : n0 ≤ h13.size := Nat.le_trans Z11 (Keep.of_wr W13).1
  have K13 : Keep h0 h13 [sx, co, cs] := K11.wr W13 (Or.inl (List.mem_of_getElem? (i := 0) rfl))
  obtain ⟨fs, hr, hrun, hended, hW, hsame⟩ := X13.leave (v := some (.int 2)) (fun h => by rw [Bd.returns] at h; cases h)
  refine ⟨_, _, retOut X13 hx Bd.returns rfl (Or.inl ⟨rfl, Or.inl rfl, _, rfl⟩) (hb hby o722_120) hr, hPf _ _ ⟨hrun, hended, _, _, rfl, ?_, ⟨_, rfl⟩, hW, hsame.mono (by decide) (by decide)⟩⟩
  show own_Q_add2 Z sx pk dc co cs bc li ba iv vl el ca cb kco kcs kpk f0 f1 wk0 wk1 h0 n0 _ T13.heap _
  rw [e13]
  exact ⟨b5, rfl, N13, K13, sz_b5, f13_1, f13_2, f13_3, f13_4, f13_5, f13_6, f13_7, f13_8, f13_9, f13_10, f13_11, f13_16, f13_14⟩
theorem own_arith0 {c0 l c1 m QA0 QB0 QA1 QB1 : Int} (h0 : own_AB QA0 QB0) (h1 : own_AB QA1 QB1) (t1 : (c0 * l).natAbs ≤ 999999 * 1999998) (t2 : (c1 * m).natAbs ≤ 999999 * 1999998) :
    (c0 * (QB0 * l) + c1 * (QB1 * m)) * (QA0 * QA1) = 8 * ((c0 * l) * QA1 + (c1 * m) * QA0) ∧ ((c0 * l) * QA1 + (c1 * m) * QA0).natAbs < 9007199254740992 ∧ ((c0 * (QB0 * l) + c1 * (QB1 * m)) * (QA0 * QA1)).natAbs < 9007199254740992 := by
  rw [Int.mul_left_comm c0, Int.mul_left_comm c1]
  generalize c0 * l = X at *
  generalize c1 * m = Y at *
  rcases h0 with ⟨rfl, rfl⟩ | ⟨rfl, rfl⟩ | ⟨rfl, rfl⟩ | ⟨rfl, rfl⟩ <;> rcases h1 with ⟨rfl, rfl⟩ | ⟨rfl, rfl⟩ | ⟨rfl, rfl⟩ | ⟨rfl, rfl⟩ <;> refine ⟨?_, ?_, ?_⟩ <;> omega
theorem own_arith1 {c0 l c1 m QA0 QB0 QA1 QB1 : Int} (h0 : own_AB QA0 QB0) (h1 : own_AB QA1 QB1) (t1 : (c0 * l).natAbs ≤ 999999 * 1999998) (t2 : (c1 * m).natAbs ≤ 999999 * 1999998) :
    (c1 * (QB1 * m) + c0 * (QB0 * l)) * (QA0 * QA1) = 8 * ((c0 * l) * QA1 + (c1 * m) * QA0) ∧ ((c0 * l) * QA1 + (c1 * m) * QA0).natAbs < 9007199254740992 ∧ ((c1 * (QB1 * m) + c0 * (QB0 * l)) * (QA0 * QA1)).natAbs < 9007199254740992 := by
  rw [Int.add_comm (c1 * (QB1 * m))]; exact own_arith0 h0 h1 t1 t2
theorem own_arith2 {c2 l c1 d QA0 QB0 QA1 QB1 : Int} (h0 : own_AB QA0 QB0) (h1 : own_AB QA1 QB1) (t1 : (c2 * l).natAbs ≤ 999999 * 1999998) (t2 : (c1 * d).natAbs ≤ 999999 * 1999998) :
    (c2 * (8 * l) + c1 * (QB1 * d)) * (QA0 * QA1) = 8 * ((c2 * l) * QA0 * QA1 + (c1 * d) * QA0) ∧ ((c2 * l) * QA0 * QA1 + (c1 * d) * QA0).natAbs < 9007199254740992 ∧ ((c2 * (8 * l) + c1 * (QB1 * d)) * (QA0 * QA1)).natAbs < 9007199254740992 := by
  rw [Int.mul_left_comm c2, Int.mul_left_comm c1]
  generalize c2 * l = X at *
  generalize c1 * d = Y at *
  rcases h0 with ⟨rfl, rfl⟩ | ⟨rfl, rfl⟩ | ⟨rfl, rfl⟩ | ⟨rfl, rfl⟩ <;> rcases h1 with ⟨rfl, rfl⟩ | ⟨rfl, rfl⟩ | ⟨rfl, rfl⟩ | ⟨rfl, rfl⟩ <;> refine ⟨?_, ?_, ?_⟩ <;> omega
abbrev oF_law (m : MethodId) (pc : Nat) (a0 a1 a2 a3 a4 a5 a6 a7 a8 a9 a10 a11 a12 a13 a14 a15 a16 a17 a18 a19 a20 a21 a22 a23 a24 a25 a26 a27 a28 a29 a30 a31 a32 a33 a34 a35 : Slot) (S : List Value) : JFrame := mkF m pc #[a0, a1, a2, a3, a4, a5, a6, a7, a8, a9, a10, a11, a12, a13, a14, a15, a16, a17, a18, a19, a20, a21, a22, a23, a24, a25, a26, a27, a28, a29, a30, a31, a32, a33, a34, a35] S
theorem own_pd_285bD29V : parseMethodDescriptor "([D)V" = some ⟨[(.array .double)], none⟩ := by decide +kernel
theorem own_pd_285bDD29I : parseMethodDescriptor "([DD)I" = some ⟨[(.array .double), .double], some .int⟩ := by decide +kernel
theorem own_pd_285bI29Z : parseMethodDescriptor "([I)Z" = some ⟨[(.array .int)], some .boolean⟩ := by decide +kernel
theorem own_pd_2829D : parseMethodDescriptor "()D" = some ⟨[], some .double⟩ := by decide +kernel
theorem own_ef_law (m : MethodId) (x0 : Int32) (x1 : Int32) (x2 : Int32) (x3 : Int32) (x4 : Int32) (x5 : Int32) : entryFrame m #[(.int x0), (.int x1), (.int x2), (.int x3), (.int x4), (.int x5)] maxLocals = mkF m 0 #[(oi x0), (oi x1), (oi x2), (oi x3), (oi x4), (oi x5), .unset, .unset, .unset, .unset, .unset, .unset, .unset, .unset, .unset, .unset, .unset, .unset, .unset, .unset, .unset, .unset, .unset, .unset, .unset, .unset, .unset, .unset, .unset, .unset, .unset, .unset, .unset, .unset, .unset, .unset] [] := by first | (simp [entryFrame, mkF, argsToLocals, Value.category, maxLocals]; done) | rfl
def own_Q_law (Z : State) (p0 : Int32) (p1 : Int32) (p2 : Int32) (p3 : Int32) (p4 : Int32) (p5 : Int32)  (h0 : Heap) (n0 : Nat) (v : Option Value) (h : Heap) (L : List Loc) : Prop := v = some (.int 1) ∧ Fr n0 L
theorem own_pn_com_example_composure_composure_select_SimplexValuePinLaw : plainName "com/example/composure/composure/select/SimplexValuePinLaw" = true := by first | (simp [plainName, overriddenIn]; done) | decide +kernel
set_option maxRecDepth 65536 in
set_option maxHeartbeats 40000000 in
theorem own_rm_law (l : Launch) (Z : State) (a0 : Array Value) (hw : ∀ d ∈ tables_1, d.before a0 Z = true) (ws : List Jvm.Cond) (p0 : Int32) (p1 : Int32) (p2 : Int32) (p3 : Int32) (p4 : Int32) (p5 : Int32)  (h0 : Heap) (n0 : Nat) (Z0 : n0 ≤ h0.size) :
    MetFree l x (head1 (Jvm.Cond.code x code maxLocals ret :: ws) room_1) (fun a U => a = #[(.int p0), (.int p1), (.int p2), (.int p3), (.int p4), (.int p5)] ∧ Z.Warmed39 U.vm ∧ U.heap = h0) (fun _ _ _ _ _ => True) (fun _ U o U' => ∃ v L, o = .returned v ∧ own_Q_law Z p0 p1 p2 p3 p4 p5 h0 n0 v U'.heap L ∧ FrameEnd U o U' L room_1.cells room_1.slots) := by
  refine MetFree.of_bodySF (plainFor_of_name own_pn_com_example_composure_composure_select_SimplexValuePinLaw) hisR ?_
  intro p e s m args below meth c s₁ Bd hml0 hP hKq_
  obtain ⟨rfl, hZ, hh⟩ := hP
  have hx := Bd.exec
  have hby := Bd.bytes
  have hml : c.maxLocals = 36 := hml0
  have hown : s.vm.findClass "com/example/composure/composure/select/SimplexValuePinLaw" = some m.cls := findClass_of_methodNamed Bd.named
  have hnm := (name_of_methodNamed Bd.named Bd.method).1
  have ow0 := hw _ (List.mem_of_getElem? (i := 0) rfl)
  have ow1 := hw _ (List.mem_of_getElem? (i := 1) rfl)
  have ow2 := hw _ (List.mem_of_getElem? (i := 2) rfl)
  have ow3 := hw _ (List.mem_of_getElem? (i := 3) rfl)
  have ow4 := hw _ (List.mem_of_getElem? (i := 4) rfl)
  have ow5 := hw _ (List.mem_of_getElem? (i := 5) rfl)
  have ow6 := hw _ (List.mem_of_getElem? (i := 6) rfl)
  have ow7 := hw _ (List.mem_of_getElem? (i := 7) rfl)
  have ow8 := hw _ (List.mem_of_getElem? (i := 8) rfl)
  have ow9 := hw _ (List.mem_of_getElem? (i := 9) rfl)
  have ow10 := hw _ (List.mem_of_getElem? (i := 10) rfl)
  have ow17 := hw _ (List.mem_of_getElem? (i := 17) rfl)
  have ow19 := hw _ (List.mem_of_getElem? (i := 19) rfl)
  have ow22 := hw _ (List.mem_of_getElem? (i := 22) rfl)
  have ow24 := hw _ (List.mem_of_getElem? (i := 24) rfl)
  have ow26 := hw _ (List.mem_of_getElem? (i := 26) rfl)
  have ow36 := hw _ (List.mem_of_getElem? (i := 36) rfl)
  have ow38 := hw _ (List.mem_of_getElem? (i := 38) rfl)
  have ow41 := hw _ (List.mem_of_getElem? (i := 41) rfl)
  have ow43 := hw _ (List.mem_of_getElem? (i := 43) rfl)
  have ow45 := hw _ (List.mem_of_getElem? (i := 45) rfl)
  have ow47 := hw _ (List.mem_of_getElem? (i := 47) rfl)
  have ow49 := hw _ (List.mem_of_getElem? (i := 49) rfl)
  have ow54 := hw _ (List.mem_of_getElem? (i := 54) rfl)
  have ow55 := hw _ (List.mem_of_getElem? (i := 55) rfl)
  have ow56 := hw _ (List.mem_of_getElem? (i := 56) rfl)
  have ow57 := hw _ (List.mem_of_getElem? (i := 57) rfl)
  have ow58 := hw _ (List.mem_of_getElem? (i := 58) rfl)
  have ow60 := hw _ (List.mem_of_getElem? (i := 60) rfl)
  have ow61 := hw _ (List.mem_of_getElem? (i := 61) rfl)
  have ow62 := hw _ (List.mem_of_getElem? (i := 62) rfl)
  have ow63 := hw _ (List.mem_of_getElem? (i := 63) rfl)
  have ow64 := hw _ (List.mem_of_getElem? (i := 64) rfl)
  have ow65 := hw _ (List.mem_of_getElem? (i := 65) rfl)
  have ow90 := hw _ (List.mem_of_getElem? (i := 90) rfl)
  have ow91 := hw _ (List.mem_of_getElem? (i := 91) rfl)
  have ow92 := hw _ (List.mem_of_getElem? (i := 92) rfl)
  have ow93 := hw _ (List.mem_of_getElem? (i := 93) rfl)
  have ow94 := hw _ (List.mem_of_getElem? (i := 94) rfl)
  have X0 : Stand p l e room_1 s m #[(.int p0), (.int p1), (.int p2), (.int p3), (.int p4), (.int p5)] below meth c s₁ [] 0 0 := Stand.of_body Bd
  have e0 : s₁.heap = h0 := by rw [← hh, Bd.state]; rfl
  have N0 := Fr.nil n0
  have pre0 : ∀ t, Steps p.tables e below (s₁.setTop (mkF m 0 #[(oi p0), (oi p1), (oi p2), (oi p3), (oi p4), (oi p5), .unset, .unset, .unset, .unset, .unset, .unset, .unset, .unset, .unset, .unset, .unset, .unset, .unset, .unset, .unset, .unset, .unset, .unset, .unset, .unset, .unset, .unset, .unset, .unset, .unset, .unset, .unset, .unset, .unset, .unset] [])) t → Steps p.tables e below (s₁.setTop (entryFrame m #[(.int p0), (.int p1), (.int p2), (.int p3), (.int p4), (.int p5)] maxLocals)) t := fun t k => castTop (own_ef_law m p0 p1 p2 p3 p4 p5) k
  refine own_go pre0 ?_
  refine own_abs ?_
  intro Pf hPf
  refine own_go (A := oW p e below s₁ (oF_law m 86 (oi p0) (oi p1) (oi p2) (oi p3) (oi p4) (oi p5) (oj (p0 % (1000000 : Int32)).toInt64) .second (oj (p1 % (1000000 : Int32)).toInt64) .second (oj (p2 % (1000000 : Int32)).toInt64) .second (oj ((p3 &&& (2147483647 : Int32)) % (1000000 : Int32)).toInt64) .second (oj ((p4 &&& (2147483647 : Int32)) % (1000000 : Int32)).toInt64) .second (oj (((p3 &&& (2147483647 : Int32)) % (1000000 : Int32)).toInt64 + ((p4 &&& (2147483647 : Int32)) % (1000000 : Int32)).toInt64)) .second (oi (p5 &&& (3 : Int32))) (oi (((p5.toUInt32 >>> ((2 : Int32) &&& 31).toUInt32).toInt32) &&& (3 : Int32))) (oi ((((p5.toUInt32 >>> ((4 : Int32) &&& 31).toUInt32).toInt32) &&& (268435455 : Int32)) % (3 : Int32))) (oj ((1 : Int64) <<< ((p5 &&& (3 : Int32)) &&& 0x3f).toInt64)) .second (oj ((1 : Int64) <<< ((((p5.toUInt32 >>> ((2 : Int32) &&& 31).toUInt32).toInt32) &&& (3 : Int32)) &&& 0x3f).toInt64)) .second .unset .unset .unset .unset .unset .unset .unset .unset .unset .unset .unset [])) (fun t k => by
    refine XS.iloadN X0.here hx rfl (hb hby at_0) rfl ?_
    refine X0.ldcInt hx hown (mvT hZ ow0) (g := (oF_law m 1 (oi p0) (oi p1) (oi p2) (oi p3) (oi p4) (oi p5) .unset .unset .unset .unset .unset .unset .unset .unset .unset .unset .unset .unset .unset .unset .unset .unset .unset .unset .unset .unset .unset .unset .unset .unset .unset .unset .unset .unset .unset .unset [(.int p0)])) rfl (hb hby at_1) _ ?_
    refine iremM X0 hx rfl (hb hby at_3) rfl (by decide) ?_
    refine XS.i2l X0.here hx rfl (hb hby at_4) rfl ?_
    refine XS.lstore X0.here hx rfl (hb hby at_5) rfl (l' := #[(oi p0), (oi p1), (oi p2), (oi p3), (oi p4), (oi p5), (oj (p0 % (1000000 : Int32)).toInt64), .second, .unset, .unset, .unset, .unset, .unset, .unset, .unset, .unset, .unset, .unset, .unset, .unset, .unset, .unset, .unset, .unset, .unset, .unset, .unset, .unset, .unset, .unset, .unset, .unset, .unset, .unset, .unset, .unset]) rfl ?_
    refine XS.iloadN X0.here hx rfl (hb hby at_7) rfl ?_
    refine X0.ldcInt hx hown (mvT hZ ow0) (g := (oF_law m 8 (oi p0) (oi p1) (oi p2) (oi p3) (oi p4) (oi p5) (oj (p0 % (1000000 : Int32)).toInt64) .second .unset .unset .unset .unset .unset .unset .unset .unset .unset .unset .unset .unset .unset .unset .unset .unset .unset .unset .unset .unset .unset .unset .unset .unset .unset .unset .unset .unset [(.int p1)])) rfl (hb hby at_8) _ ?_
    refine iremM X0 hx rfl (hb hby at_10) rfl (by decide) ?_
    refine XS.i2l X0.here hx rfl (hb hby at_11) rfl ?_
    show oW p e below s₁ (oF_law m 12 (oi p0) (oi p1) (oi p2) (oi p3) (oi p4) (oi p5) (oj (p0 % (1000000 : Int32)).toInt64) .second .unset .unset .unset .unset .unset .unset .unset .unset .unset .unset .unset .unset .unset .unset .unset .unset .unset .unset .unset .unset .unset .unset .unset .unset .unset .unset .unset .unset [(.long (p1 % (1000000 : Int32)).toInt64)]) _
    refine XS.lstore X0.here hx rfl (hb hby at_12) rfl (l' := #[(oi p0), (oi p1), (oi p2), (oi p3), (oi p4), (oi p5), (oj (p0 % (1000000 : Int32)).toInt64), .second, (oj (p1 % (1000000 : Int32)).toInt64), .second, .unset, .unset, .unset, .unset, .unset, .unset, .unset, .unset, .unset, .unset, .unset, .unset, .unset, .unset, .unset, .unset, .unset, .unset, .unset, .unset, .unset, .unset, .unset, .unset, .unset, .unset]) rfl ?_
    refine XS.iloadN X0.here hx rfl (hb hby at_14) rfl ?_
    refine X0.ldcInt hx hown (mvT hZ ow0) (g := (oF_law m 15 (oi p0) (oi p1) (oi p2) (oi p3) (oi p4) (oi p5) (oj (p0 % (1000000 : Int32)).toInt64) .second (oj (p1 % (1000000 : Int32)).toInt64) .second .unset .unset .unset .unset .unset .unset .unset .unset .unset .unset .unset .unset .unset .unset .unset .unset .unset .unset .unset .unset .unset .unset .unset .unset .unset .unset [(.int p2)])) rfl (hb hby at_15) _ ?_
    refine iremM X0 hx rfl (hb hby at_17) rfl (by decide) ?_
    refine XS.i2l X0.here hx rfl (hb hby at_18) rfl ?_
    refine XS.lstore X0.here hx rfl (hb hby at_19) rfl (l' := #[(oi p0), (oi p1), (oi p2), (oi p3), (oi p4), (oi p5), (oj (p0 % (1000000 : Int32)).toInt64), .second, (oj (p1 % (1000000 : Int32)).toInt64), .second, (oj (p2 % (1000000 : Int32)).toInt64), .second, .unset, .unset, .unset, .unset, .unset, .unset, .unset, .unset, .unset, .unset, .unset, .unset, .unset, .unset, .unset, .unset, .unset, .unset, .unset, .unset, .unset, .unset, .unset, .unset]) rfl ?_
    refine XS.iloadN X0.here hx rfl (hb hby at_21) rfl ?_
    refine X0.ldcInt hx hown (mvT hZ ow1) (g := (oF_law m 22 (oi p0) (oi p1) (oi p2) (oi p3) (oi p4) (oi p5) (oj (p0 % (1000000 : Int32)).toInt64) .second (oj (p1 % (1000000 : Int32)).toInt64) .second (oj (p2 % (1000000 : Int32)).toInt64) .second .unset .unset .unset .unset .unset .unset .unset .unset .unset .unset .unset .unset .unset .unset .unset .unset .unset .unset .unset .unset .unset .unset .unset .unset [(.int p3)])) rfl (hb hby at_22) _ ?_
    refine XS.iand X0.here hx rfl (hb hby at_24) rfl ?_
    show oW p e below s₁ (oF_law m 25 (oi p0) (oi p1) (oi p2) (oi p3) (oi p4) (oi p5) (oj (p0 % (1000000 : Int32)).toInt64) .second (oj (p1 % (1000000 : Int32)).toInt64) .second (oj (p2 % (1000000 : Int32)).toInt64) .second .unset .unset .unset .unset .unset .unset .unset .unset .unset .unset .unset .unset .unset .unset .unset .unset .unset .unset .unset .unset .unset .unset .unset .unset [(.int (p3 &&& (2147483647 : Int32)))]) _
    refine X0.ldcInt hx hown (mvT hZ ow0) (g := (oF_law m 25 (oi p0) (oi p1) (oi p2) (oi p3) (oi p4) (oi p5) (oj (p0 % (1000000 : Int32)).toInt64) .second (oj (p1 % (1000000 : Int32)).toInt64) .second (oj (p2 % (1000000 : Int32)).toInt64) .second .unset .unset .unset .unset .unset .unset .unset .unset .unset .unset .unset .unset .unset .unset .unset .unset .unset .unset .unset .unset .unset .unset .unset .unset [(.int (p3 &&& (2147483647 : Int32)))])) rfl (hb hby at_25) _ ?_
    refine iremM X0 hx rfl (hb hby at_27) rfl (by decide) ?_
    refine XS.i2l X0.here hx rfl (hb hby at_28) rfl ?_
    refine XS.lstore X0.here hx rfl (hb hby at_29) rfl (l' := #[(oi p0), (oi p1), (oi p2), (oi p3), (oi p4), (oi p5), (oj (p0 % (1000000 : Int32)).toInt64), .second, (oj (p1 % (1000000 : Int32)).toInt64), .second, (oj (p2 % (1000000 : Int32)).toInt64), .second, (oj ((p3 &&& (2147483647 : Int32)) % (1000000 : Int32)).toInt64), .second, .unset, .unset, .unset, .unset, .unset, .unset, .unset, .unset, .unset, .unset, .unset, .unset, .unset, .unset, .unset, .unset, .unset, .unset, .unset, .unset, .unset, .unset]) rfl ?_
    refine XS.iload X0.here hx rfl (hb hby at_31) rfl ?_
    refine X0.ldcInt hx hown (mvT hZ ow1) (g := (oF_law m 33 (oi p0) (oi p1) (oi p2) (oi p3) (oi p4) (oi p5) (oj (p0 % (1000000 : Int32)).toInt64) .second (oj (p1 % (1000000 : Int32)).toInt64) .second (oj (p2 % (1000000 : Int32)).toInt64) .second (oj ((p3 &&& (2147483647 : Int32)) % (1000000 : Int32)).toInt64) .second .unset .unset .unset .unset .unset .unset .unset .unset .unset .unset .unset .unset .unset .unset .unset .unset .unset .unset .unset .unset .unset .unset [(.int p4)])) rfl (hb hby at_33) _ ?_
    refine XS.iand X0.here hx rfl (hb hby at_35) rfl ?_
    refine X0.ldcInt hx hown (mvT hZ ow0) (g := (oF_law m 36 (oi p0) (oi p1) (oi p2) (oi p3) (oi p4) (oi p5) (oj (p0 % (1000000 : Int32)).toInt64) .second (oj (p1 % (1000000 : Int32)).toInt64) .second (oj (p2 % (1000000 : Int32)).toInt64) .second (oj ((p3 &&& (2147483647 : Int32)) % (1000000 : Int32)).toInt64) .second .unset .unset .unset .unset .unset .unset .unset .unset .unset .unset .unset .unset .unset .unset .unset .unset .unset .unset .unset .unset .unset .unset [(.int (p4 &&& (2147483647 : Int32)))])) rfl (hb hby at_36) _ ?_
    refine iremM X0 hx rfl (hb hby at_38) rfl (by decide) ?_
    show oW p e below s₁ (oF_law m 39 (oi p0) (oi p1) (oi p2) (oi p3) (oi p4) (oi p5) (oj (p0 % (1000000 : Int32)).toInt64) .second (oj (p1 % (1000000 : Int32)).toInt64) .second (oj (p2 % (1000000 : Int32)).toInt64) .second (oj ((p3 &&& (2147483647 : Int32)) % (1000000 : Int32)).toInt64) .second .unset .unset .unset .unset .unset .unset .unset .unset .unset .unset .unset .unset .unset .unset .unset .unset .unset .unset .unset .unset .unset .unset [(.int ((p4 &&& (2147483647 : Int32)) % (1000000 : Int32)))]) _
    refine XS.i2l X0.here hx rfl (hb hby at_39) rfl ?_
    refine XS.lstore X0.here hx rfl (hb hby at_40) rfl (l' := #[(oi p0), (oi p1), (oi p2), (oi p3), (oi p4), (oi p5), (oj (p0 % (1000000 : Int32)).toInt64), .second, (oj (p1 % (1000000 : Int32)).toInt64), .second, (oj (p2 % (1000000 : Int32)).toInt64), .second, (oj ((p3 &&& (2147483647 : Int32)) % (1000000 : Int32)).toInt64), .second, (oj ((p4 &&& (2147483647 : Int32)) % (1000000 : Int32)).toInt64), .second, .unset, .unset, .unset, .unset, .unset, .unset, .unset, .unset, .unset, .unset, .unset, .unset, .unset, .unset, .unset, .unset, .unset, .unset, .unset, .unset]) rfl ?_
    refine XS.lload X0.here hx rfl (hb hby at_42) rfl ?_
    refine XS.lload X0.here hx rfl (hb hby at_44) rfl ?_
    refine XS.ladd X0.here hx rfl (hb hby at_46) rfl ?_
    refine XS.lstore X0.here hx rfl (hb hby at_47) rfl (l' := #[(oi p0), (oi p1), (oi p2), (oi p3), (oi p4), (oi p5), (oj (p0 % (1000000 : Int32)).toInt64), .second, (oj (p1 % (1000000 : Int32)).toInt64), .second, (oj (p2 % (1000000 : Int32)).toInt64), .second, (oj ((p3 &&& (2147483647 : Int32)) % (1000000 : Int32)).toInt64), .second, (oj ((p4 &&& (2147483647 : Int32)) % (1000000 : Int32)).toInt64), .second, (oj (((p3 &&& (2147483647 : Int32)) % (1000000 : Int32)).toInt64 + ((p4 &&& (2147483647 : Int32)) % (1000000 : Int32)).toInt64)), .second, .unset, .unset, .unset, .unset, .unset, .unset, .unset, .unset, .unset, .unset, .unset, .unset, .unset, .unset, .unset, .unset, .unset, .unset]) rfl ?_
    refine XS.iload X0.here hx rfl (hb hby at_49) rfl ?_
    refine XS.iconst X0.here hx rfl (hb hby at_51) ?_
    refine XS.iand X0.here hx rfl (hb hby at_52) rfl ?_
    show oW p e below s₁ (oF_law m 53 (oi p0) (oi p1) (oi p2) (oi p3) (oi p4) (oi p5) (oj (p0 % (1000000 : Int32)).toInt64) .second (oj (p1 % (1000000 : Int32)).toInt64) .second (oj (p2 % (1000000 : Int32)).toInt64) .second (oj ((p3 &&& (2147483647 : Int32)) % (1000000 : Int32)).toInt64) .second (oj ((p4 &&& (2147483647 : Int32)) % (1000000 : Int32)).toInt64) .second (oj (((p3 &&& (2147483647 : Int32)) % (1000000 : Int32)).toInt64 + ((p4 &&& (2147483647 : Int32)) % (1000000 : Int32)).toInt64)) .second .unset .unset .unset .unset .unset .unset .unset .unset .unset .unset .unset .unset .unset .unset .unset .unset .unset .unset [(.int (p5 &&& (3 : Int32)))]) _
    refine XS.istore X0.here hx rfl (hb hby at_53) rfl (l' := #[(oi p0), (oi p1), (oi p2), (oi p3), (oi p4), (oi p5), (oj (p0 % (1000000 : Int32)).toInt64), .second, (oj (p1 % (1000000 : Int32)).toInt64), .second, (oj (p2 % (1000000 : Int32)).toInt64), .second, (oj ((p3 &&& (2147483647 : Int32)) % (1000000 : Int32)).toInt64), .second, (oj ((p4 &&& (2147483647 : Int32)) % (1000000 : Int32)).toInt64), .second, (oj (((p3 &&& (2147483647 : Int32)) % (1000000 : Int32)).toInt64 + ((p4 &&& (2147483647 : Int32)) % (1000000 : Int32)).toInt64)), .second, (oi (p5 &&& (3 : Int32))), .unset, .unset, .unset, .unset, .unset, .unset, .unset, .unset, .unset, .unset, .unset, .unset, .unset, .unset, .unset, .unset, .unset]) rfl ?_
    refine XS.iload X0.here hx rfl (hb hby at_55) rfl ?_
    refine XS.iconst X0.here hx rfl (hb hby at_57) ?_
    refine XS.iushr X0.here hx rfl (hb hby at_58) rfl ?_
    refine XS.iconst X0.here hx rfl (hb hby at_59) ?_
    refine XS.iand X0.here hx rfl (hb hby at_60) rfl ?_
    refine XS.istore X0.here hx rfl (hb hby at_61) rfl (l' := #[(oi p0), (oi p1), (oi p2), (oi p3), (oi p4), (oi p5), (oj (p0 % (1000000 : Int32)).toInt64), .second, (oj (p1 % (1000000 : Int32)).toInt64), .second, (oj (p2 % (1000000 : Int32)).toInt64), .second, (oj ((p3 &&& (2147483647 : Int32)) % (1000000 : Int32)).toInt64), .second, (oj ((p4 &&& (2147483647 : Int32)) % (1000000 : Int32)).toInt64), .second, (oj (((p3 &&& (2147483647 : Int32)) % (1000000 : Int32)).toInt64 + ((p4 &&& (2147483647 : Int32)) % (1000000 : Int32)).toInt64)), .second, (oi (p5 &&& (3 : Int32))), (oi (((p5.toUInt32 >>> ((2 : Int32) &&& 31).toUInt32).toInt32) &&& (3 : Int32))), .unset, .unset, .unset, .unset, .unset, .unset, .unset, .unset, .unset, .unset, .unset, .unset, .unset, .unset, .unset, .unset]) rfl ?_
    refine XS.iload X0.here hx rfl (hb hby at_63) rfl ?_
    refine XS.iconst X0.here hx rfl (hb hby at_65) ?_
    show oW p e below s₁ (oF_law m 66 (oi p0) (oi p1) (oi p2) (oi p3) (oi p4) (oi p5) (oj (p0 % (1000000 : Int32)).toInt64) .second (oj (p1 % (1000000 : Int32)).toInt64) .second (oj (p2 % (1000000 : Int32)).toInt64) .second (oj ((p3 &&& (2147483647 : Int32)) % (1000000 : Int32)).toInt64) .second (oj ((p4 &&& (2147483647 : Int32)) % (1000000 : Int32)).toInt64) .second (oj (((p3 &&& (2147483647 : Int32)) % (1000000 : Int32)).toInt64 + ((p4 &&& (2147483647 : Int32)) % (1000000 : Int32)).toInt64)) .second (oi (p5 &&& (3 : Int32))) (oi (((p5.toUInt32 >>> ((2 : Int32) &&& 31).toUInt32).toInt32) &&& (3 : Int32))) .unset .unset .unset .unset .unset .unset .unset .unset .unset .unset .unset .unset .unset .unset .unset .unset [(.int 4), (.int p5)]) _
    refine XS.iushr X0.here hx rfl (hb hby at_66) rfl ?_
    refine X0.ldcInt hx hown (mvT hZ ow2) (g := (oF_law m 67 (oi p0) (oi p1) (oi p2) (oi p3) (oi p4) (oi p5) (oj (p0 % (1000000 : Int32)).toInt64) .second (oj (p1 % (1000000 : Int32)).toInt64) .second (oj (p2 % (1000000 : Int32)).toInt64) .second (oj ((p3 &&& (2147483647 : Int32)) % (1000000 : Int32)).toInt64) .second (oj ((p4 &&& (2147483647 : Int32)) % (1000000 : Int32)).toInt64) .second (oj (((p3 &&& (2147483647 : Int32)) % (1000000 : Int32)).toInt64 + ((p4 &&& (2147483647 : Int32)) % (1000000 : Int32)).toInt64)) .second (oi (p5 &&& (3 : Int32))) (oi (((p5.toUInt32 >>> ((2 : Int32) &&& 31).toUInt32).toInt32) &&& (3 : Int32))) .unset .unset .unset .unset .unset .unset .unset .unset .unset .unset .unset .unset .unset .unset .unset .unset [(.int ((p5.toUInt32 >>> ((4 : Int32) &&& 31).toUInt32).toInt32))])) rfl (hb hby at_67) _ ?_
    refine XS.iand X0.here hx rfl (hb hby at_69) rfl ?_
    refine XS.iconst X0.here hx rfl (hb hby at_70) ?_
    refine iremM X0 hx rfl (hb hby at_71) rfl (by decide) ?_
    refine XS.istore X0.here hx rfl (hb hby at_72) rfl (l' := #[(oi p0), (oi p1), (oi p2), (oi p3), (oi p4), (oi p5), (oj (p0 % (1000000 : Int32)).toInt64), .second, (oj (p1 % (1000000 : Int32)).toInt64), .second, (oj (p2 % (1000000 : Int32)).toInt64), .second, (oj ((p3 &&& (2147483647 : Int32)) % (1000000 : Int32)).toInt64), .second, (oj ((p4 &&& (2147483647 : Int32)) % (1000000 : Int32)).toInt64), .second, (oj (((p3 &&& (2147483647 : Int32)) % (1000000 : Int32)).toInt64 + ((p4 &&& (2147483647 : Int32)) % (1000000 : Int32)).toInt64)), .second, (oi (p5 &&& (3 : Int32))), (oi (((p5.toUInt32 >>> ((2 : Int32) &&& 31).toUInt32).toInt32) &&& (3 : Int32))), (oi ((((p5.toUInt32 >>> ((4 : Int32) &&& 31).toUInt32).toInt32) &&& (268435455 : Int32)) % (3 : Int32))), .unset, .unset, .unset, .unset, .unset, .unset, .unset, .unset, .unset, .unset, .unset, .unset, .unset, .unset, .unset]) rfl ?_
    refine XS.lconst X0.here hx rfl (hb hby at_74) ?_
    refine XS.iload X0.here hx rfl (hb hby at_75) rfl ?_
    refine XS.lshl X0.here hx rfl (hb hby at_77) rfl ?_
    show oW p e below s₁ (oF_law m 78 (oi p0) (oi p1) (oi p2) (oi p3) (oi p4) (oi p5) (oj (p0 % (1000000 : Int32)).toInt64) .second (oj (p1 % (1000000 : Int32)).toInt64) .second (oj (p2 % (1000000 : Int32)).toInt64) .second (oj ((p3 &&& (2147483647 : Int32)) % (1000000 : Int32)).toInt64) .second (oj ((p4 &&& (2147483647 : Int32)) % (1000000 : Int32)).toInt64) .second (oj (((p3 &&& (2147483647 : Int32)) % (1000000 : Int32)).toInt64 + ((p4 &&& (2147483647 : Int32)) % (1000000 : Int32)).toInt64)) .second (oi (p5 &&& (3 : Int32))) (oi (((p5.toUInt32 >>> ((2 : Int32) &&& 31).toUInt32).toInt32) &&& (3 : Int32))) (oi ((((p5.toUInt32 >>> ((4 : Int32) &&& 31).toUInt32).toInt32) &&& (268435455 : Int32)) % (3 : Int32))) .unset .unset .unset .unset .unset .unset .unset .unset .unset .unset .unset .unset .unset .unset .unset [(.long ((1 : Int64) <<< ((p5 &&& (3 : Int32)) &&& 0x3f).toInt64))]) _
    refine XS.lstore X0.here hx rfl (hb hby at_78) rfl (l' := #[(oi p0), (oi p1), (oi p2), (oi p3), (oi p4), (oi p5), (oj (p0 % (1000000 : Int32)).toInt64), .second, (oj (p1 % (1000000 : Int32)).toInt64), .second, (oj (p2 % (1000000 : Int32)).toInt64), .second, (oj ((p3 &&& (2147483647 : Int32)) % (1000000 : Int32)).toInt64), .second, (oj ((p4 &&& (2147483647 : Int32)) % (1000000 : Int32)).toInt64), .second, (oj (((p3 &&& (2147483647 : Int32)) % (1000000 : Int32)).toInt64 + ((p4 &&& (2147483647 : Int32)) % (1000000 : Int32)).toInt64)), .second, (oi (p5 &&& (3 : Int32))), (oi (((p5.toUInt32 >>> ((2 : Int32) &&& 31).toUInt32).toInt32) &&& (3 : Int32))), (oi ((((p5.toUInt32 >>> ((4 : Int32) &&& 31).toUInt32).toInt32) &&& (268435455 : Int32)) % (3 : Int32))), (oj ((1 : Int64) <<< ((p5 &&& (3 : Int32)) &&& 0x3f).toInt64)), .second, .unset, .unset, .unset, .unset, .unset, .unset, .unset, .unset, .unset, .unset, .unset, .unset, .unset]) rfl ?_
    refine XS.lconst X0.here hx rfl (hb hby at_80) ?_
    refine XS.iload X0.here hx rfl (hb hby at_81) rfl ?_
    refine XS.lshl X0.here hx rfl (hb hby at_83) rfl ?_
    refine XS.lstore X0.here hx rfl (hb hby at_84) rfl (l' := #[(oi p0), (oi p1), (oi p2), (oi p3), (oi p4), (oi p5), (oj (p0 % (1000000 : Int32)).toInt64), .second, (oj (p1 % (1000000 : Int32)).toInt64), .second, (oj (p2 % (1000000 : Int32)).toInt64), .second, (oj ((p3 &&& (2147483647 : Int32)) % (1000000 : Int32)).toInt64), .second, (oj ((p4 &&& (2147483647 : Int32)) % (1000000 : Int32)).toInt64), .second, (oj (((p3 &&& (2147483647 : Int32)) % (1000000 : Int32)).toInt64 + ((p4 &&& (2147483647 : Int32)) % (1000000 : Int32)).toInt64)), .second, (oi (p5 &&& (3 : Int32))), (oi (((p5.toUInt32 >>> ((2 : Int32) &&& 31).toUInt32).toInt32) &&& (3 : Int32))), (oi ((((p5.toUInt32 >>> ((4 : Int32) &&& 31).toUInt32).toInt32) &&& (268435455 : Int32)) % (3 : Int32))), (oj ((1 : Int64) <<< ((p5 &&& (3 : Int32)) &&& 0x3f).toInt64)), .second, (oj ((1 : Int64) <<< ((((p5.toUInt32 >>> ((2 : Int32) &&& 31).toUInt32).toInt32) &&& (3 : Int32)) &&& 0x3f).toInt64)), .second, .unset, .unset, .unset, .unset, .unset, .unset, .unset, .unset, .unset, .unset, .unset]) rfl ?_
    exact k) ?_
  obtain ⟨c0, h_c0⟩ : ∃ z, z = (p0 % (1000000 : Int32)).toInt64 := ⟨_, rfl⟩
  rw [← h_c0]
  obtain ⟨c1, h_c1⟩ : ∃ z, z = (p1 % (1000000 : Int32)).toInt64 := ⟨_, rfl⟩
  rw [← h_c1]
  obtain ⟨c2, h_c2⟩ : ∃ z, z = (p2 % (1000000 : Int32)).toInt64 := ⟨_, rfl⟩
  rw [← h_c2]
  obtain ⟨l0, h_l0⟩ : ∃ z, z = ((p3 &&& (2147483647 : Int32)) % (1000000 : Int32)).toInt64 := ⟨_, rfl⟩
  rw [← h_l0]
  obtain ⟨dd, h_dd⟩ : ∃ z, z = ((p4 &&& (2147483647 : Int32)) % (1000000 : Int32)).toInt64 := ⟨_, rfl⟩
  rw [← h_dd]
  obtain ⟨mm, h_mm⟩ : ∃ z, z = (l0 + dd) := ⟨_, rfl⟩
  rw [← h_mm]
  obtain ⟨s0, h_s0⟩ : ∃ z, z = ((1 : Int64) <<< ((p5 &&& (3 : Int32)) &&& 0x3f).toInt64) := ⟨_, rfl⟩
  rw [← h_s0]
  obtain ⟨s1, h_s1⟩ : ∃ z, z = ((1 : Int64) <<< ((((p5.toUInt32 >>> ((2 : Int32) &&& 31).toUInt32).toInt32) &&& (3 : Int32)) &&& 0x3f).toInt64) := ⟨_, rfl⟩
  rw [← h_s1]
  have b_c0 : c0.toInt.natAbs ≤ 999999 := by rw [h_c0]; exact own_cb _
  have b_c1 : c1.toInt.natAbs ≤ 999999 := by rw [h_c1]; exact own_cb _
  have b_c2 : c2.toInt.natAbs ≤ 999999 := by rw [h_c2]; exact own_cb _
  have b_l0 : 0 ≤ l0.toInt ∧ l0.toInt ≤ 999999 := by rw [h_l0]; exact own_lb _
  have b_dd : 0 ≤ dd.toInt ∧ dd.toInt ≤ 999999 := by rw [h_dd]; exact own_lb _
  have v_mm : mm.toInt = l0.toInt + dd.toInt := by rw [h_mm]; exact own_i2 rfl rfl (by omega) (by omega)
  have v_s0 : s0 = 1 ∨ s0 = 2 ∨ s0 = 4 ∨ s0 = 8 := by rw [h_s0]; exact own_sh _
  have v_s1 : s1 = 1 ∨ s1 = 2 ∨ s1 = 4 ∨ s1 = 8 := by rw [h_s1]; exact own_sh _
  obtain ⟨ux, vx, wx, QA0, QB0, hux, hPx, eA0, hAB0, S_vx, S_wx⟩ := own_sc v_s0
  obtain ⟨uy, vy, wy, QA1, QB1, huy, hPy, eA1, hAB1, S_vy, S_wy⟩ := own_sc v_s1
  obtain ⟨dl, h_dl⟩ : ∃ z, FP.l2d l0 = z := ⟨_, rfl⟩
  have S_dl : own_S dl (l0.toInt * 2 ^ 1074) := by rw [← h_dl]; exact own_l2dS rfl (by omega)
  obtain ⟨dm, h_dm⟩ : ∃ z, FP.l2d mm = z := ⟨_, rfl⟩
  have S_dm : own_S dm (mm.toInt * 2 ^ 1074) := by rw [← h_dm]; exact own_l2dS rfl (by omega)
  obtain ⟨wk0, h_wk0⟩ : ∃ z, FP.l2d c0 = z := ⟨_, rfl⟩
  have S_wk0 : own_S wk0 (c0.toInt * 2 ^ 1074) := by rw [← h_wk0]; exact own_l2dS rfl (by omega)
  obtain ⟨wk1, h_wk1⟩ : ∃ z, FP.l2d c1 = z := ⟨_, rfl⟩
  have S_wk1 : own_S wk1 (c1.toInt * 2 ^ 1074) := by rw [← h_wk1]; exact own_l2dS rfl (by omega)
  obtain ⟨wk2, h_wk2⟩ : ∃ z, FP.l2d c2 = z := ⟨_, rfl⟩
  have S_wk2 : own_S wk2 (c2.toInt * 2 ^ 1074) := by rw [← h_wk2]; exact own_l2dS rfl (by omega)
  have seg : ∀ (Tg : State) (locsg : List Loc) (hg : Heap) (pb : Addr) (kpb : ClassId) (sb0 sb1 : Int32) (xp : Int64) (Xg : Stand p l e room_1 s m #[(.int p0), (.int p1), (.int p2), (.int p3), (.int p4), (.int p5)] below meth c Tg locsg 1 2) (eg : Tg.heap = hg) (Ng : Fr n0 locsg) (Zg : n0 ≤ hg.size) (g_pb : n0 ≤ pb) (Vg : Arv Z hg pb kpb .int (2 : Int32) [(.int sb0), (.int sb1)] (.int 0)) (hs : (sb0 = 0 ∧ sb1 = 1 ∧ xp = (((c0 * l0) * s1) + ((c1 * mm) * s0))) ∨ (sb0 = 1 ∧ sb1 = 0 ∧ xp = (((c0 * l0) * s1) + ((c1 * mm) * s0))) ∨ (sb0 = 2 ∧ sb1 = 1 ∧ xp = ((((c2 * l0) * s0) * s1) + ((c1 * dd) * s0)))), ∃ t o, oW p e below Tg (oF_law m 202 (oi p0) (oi p1) (oi p2) (oi p3) (oi p4) (oi p5) (oj c0) .second (oj c1) .second (oj c2) .second (oj l0) .second (oj dd) .second (oj mm) .second (oi (p5 &&& (3 : Int32))) (oi (((p5.toUInt32 >>> ((2 : Int32) &&& 31).toUInt32).toInt32) &&& (3 : Int32))) (oi ((((p5.toUInt32 >>> ((4 : Int32) &&& 31).toUInt32).toInt32) &&& (268435455 : Int32)) % (3 : Int32))) (oj s0) .second (oj s1) .second (oR pb) (oj xp) .second .unset .unset .unset .unset .unset .unset .unset .unset []) t ∧ Pf t o := by
    intro Tg locsg hg pb kpb sb0 sb1 xp Xg eg Ng Zg g_pb Vg hs
    refine own_go (A := oW p e below Tg (oF_law m 203 (oi p0) (oi p1) (oi p2) (oi p3) (oi p4) (oi p5) (oj c0) .second (oj c1) .second (oj c2) .second (oj l0) .second (oj dd) .second (oj mm) .second (oi (p5 &&& (3 : Int32))) (oi (((p5.toUInt32 >>> ((2 : Int32) &&& 31).toUInt32).toInt32) &&& (3 : Int32))) (oi ((((p5.toUInt32 >>> ((4 : Int32) &&& 31).toUInt32).toInt32) &&& (268435455 : Int32)) % (3 : Int32))) (oj s0) .second (oj s1) .second (oR pb) (oj xp) .second .unset .unset .unset .unset .unset .unset .unset .unset [(.int 2)])) (fun t k => by
      refine XS.iconst Xg.here hx rfl (hb hby at_202) ?_
      exact k) ?_
    obtain ⟨T1, h1, k1, X1, e1, E1, A1, Q1, st1⟩ := newPE Xg hx hZ (aty := .double) ow4 eg (g := (oF_law m 203 (oi p0) (oi p1) (oi p2) (oi p3) (oi p4) (oi p5) (oj c0) .second (oj c1) .second (oj c2) .second (oj l0) .second (oj dd) .second (oj mm) .second (oi (p5 &&& (3 : Int32))) (oi (((p5.toUInt32 >>> ((2 : Int32) &&& 31).toUInt32).toInt32) &&& (3 : Int32))) (oi ((((p5.toUInt32 >>> ((4 : Int32) &&& 31).toUInt32).toInt32) &&& (268435455 : Int32)) % (3 : Int32))) (oj s0) .second (oj s1) .second (oR pb) (oj xp) .second .unset .unset .unset .unset .unset .unset .unset .unset [(.int 2)])) rfl (hb hby at_203) rfl (by decide) (cap := 2) (by decide) (by decide) (by decide) (by decide) (ad := "[D") (by decide)
    obtain ⟨b1, g1⟩ : ∃ z, z = hg.size := ⟨_, rfl⟩
    rw [← g1] at A1 Q1 st1
    refine own_go st1 ?_
    have ne_pb_b1 : pb ≠ b1 := Nat.ne_of_lt (Nat.lt_of_lt_of_le Vg.lt (Nat.le_of_eq g1.symm))
    have g_b1 : n0 ≤ b1 := Nat.le_trans Zg (Nat.le_of_eq g1.symm)
    have Z1 : n0 ≤ h1.size := Nat.le_trans Zg E1.1
    have U1 : Arv Z h1 b1 k1 .double (2 : Int32) [] (.double 0) := Arv.new A1 (by decide)
    have V1 : Arv Z h1 b1 k1 .double (2 : Int32) [(.double 0), (.double 0)] (.double 0) := U1.pad (pad_rep [] (.double 0) 2)
    refine own_go (A := oW p e below T1 (oF_law m 210 (oi p0) (oi p1) (oi p2) (oi p3) (oi p4) (oi p5) (oj c0) .second (oj c1) .second (oj c2) .second (oj l0) .second (oj dd) .second (oj mm) .second (oi (p5 &&& (3 : Int32))) (oi (((p5.toUInt32 >>> ((2 : Int32) &&& 31).toUInt32).toInt32) &&& (3 : Int32))) (oi ((((p5.toUInt32 >>> ((4 : Int32) &&& 31).toUInt32).toInt32) &&& (268435455 : Int32)) % (3 : Int32))) (oj s0) .second (oj s1) .second (oR pb) (oj xp) .second .unset .unset .unset .unset .unset .unset .unset .unset [(.double dl), (.int 0), (.ref b1), (.ref b1)])) (fun t k => by
      refine XS.dup X1.here hx rfl (hb hby at_205) rfl rfl ?_
      refine XS.iconst X1.here hx rfl (hb hby at_206) ?_
      refine XS.lload X1.here hx rfl (hb hby at_207) rfl ?_
      show oW p e below T1 (oF_law m 209 (oi p0) (oi p1) (oi p2) (oi p3) (oi p4) (oi p5) (oj c0) .second (oj c1) .second (oj c2) .second (oj l0) .second (oj dd) .second (oj mm) .second (oi (p5 &&& (3 : Int32))) (oi (((p5.toUInt32 >>> ((2 : Int32) &&& 31).toUInt32).toInt32) &&& (3 : Int32))) (oi ((((p5.toUInt32 >>> ((4 : Int32) &&& 31).toUInt32).toInt32) &&& (268435455 : Int32)) % (3 : Int32))) (oj s0) .second (oj s1) .second (oR pb) (oj xp) .second .unset .unset .unset .unset .unset .unset .unset .unset [(.long l0), (.int 0), (.ref b1), (.ref b1)]) _
      refine XS.l2dS X1.here hx rfl (hb hby at_209) rfl h_dl ?_
      exact k) ?_
    obtain ⟨T2, h2, X2, e2, W2, U2, st2⟩ := own_stD X1 hx hZ e1 V1 (j := (0 : Int32)) ⟨by decide, by decide⟩ 0 rfl (Nat.le_of_ble_eq_true rfl) (g := (oF_law m 210 (oi p0) (oi p1) (oi p2) (oi p3) (oi p4) (oi p5) (oj c0) .second (oj c1) .second (oj c2) .second (oj l0) .second (oj dd) .second (oj mm) .second (oi (p5 &&& (3 : Int32))) (oi (((p5.toUInt32 >>> ((2 : Int32) &&& 31).toUInt32).toInt32) &&& (3 : Int32))) (oi ((((p5.toUInt32 >>> ((4 : Int32) &&& 31).toUInt32).toInt32) &&& (268435455 : Int32)) % (3 : Int32))) (oj s0) .second (oj s1) .second (oR pb) (oj xp) .second .unset .unset .unset .unset .unset .unset .unset .unset [(.double dl), (.int 0), (.ref b1), (.ref b1)])) rfl rfl (hb hby at_210)
    refine own_go st2 ?_
    have V2 : Arv Z h2 b1 k1 .double (2 : Int32) [(.double dl), (.double 0)] (.double 0) := U2
    have f2_0 : Arv Z h2 pb kpb .int (2 : Int32) [(.int sb0), (.int sb1)] (.int 0) := (Vg.ext E1).other W2 (ne_pb_b1)
    have f2_2 : Exa Z h2 b1 "[D" := Q1.wr W2
    have N2 := Fr.snoc X2 Ng g_b1
    have Z2 : n0 ≤ h2.size := Nat.le_trans Z1 (Keep.of_wr W2).1
    refine own_go (A := oW p e below T2 (oF_law m 216 (oi p0) (oi p1) (oi p2) (oi p3) (oi p4) (oi p5) (oj c0) .second (oj c1) .second (oj c2) .second (oj l0) .second (oj dd) .second (oj mm) .second (oi (p5 &&& (3 : Int32))) (oi (((p5.toUInt32 >>> ((2 : Int32) &&& 31).toUInt32).toInt32) &&& (3 : Int32))) (oi ((((p5.toUInt32 >>> ((4 : Int32) &&& 31).toUInt32).toInt32) &&& (268435455 : Int32)) % (3 : Int32))) (oj s0) .second (oj s1) .second (oR pb) (oj xp) .second .unset .unset .unset .unset .unset .unset .unset .unset [(.double dm), (.int 1), (.ref b1), (.ref b1)])) (fun t k => by
      refine XS.dup X2.here hx rfl (hb hby at_211) rfl rfl ?_
      refine XS.iconst X2.here hx rfl (hb hby at_212) ?_
      refine XS.lload X2.here hx rfl (hb hby at_213) rfl ?_
      refine XS.l2dS X2.here hx rfl (hb hby at_215) rfl h_dm ?_
      exact k) ?_
    obtain ⟨T3, h3, X3, e3, W3, U3, st3⟩ := own_stD X2 hx hZ e2 V2 (j := (1 : Int32)) ⟨by decide, by decide⟩ 1 rfl (Nat.le_of_ble_eq_true rfl) (g := (oF_law m 216 (oi p0) (oi p1) (oi p2) (oi p3) (oi p4) (oi p5) (oj c0) .second (oj c1) .second (oj c2) .second (oj l0) .second (oj dd) .second (oj mm) .second (oi (p5 &&& (3 : Int32))) (oi (((p5.toUInt32 >>> ((2 : Int32) &&& 31).toUInt32).toInt32) &&& (3 : Int32))) (oi ((((p5.toUInt32 >>> ((4 : Int32) &&& 31).toUInt32).toInt32) &&& (268435455 : Int32)) % (3 : Int32))) (oj s0) .second (oj s1) .second (oR pb) (oj xp) .second .unset .unset .unset .unset .unset .unset .unset .unset [(.double dm), (.int 1), (.ref b1), (.ref b1)])) rfl rfl (hb hby at_216)
    refine own_go st3 ?_
    have V3 : Arv Z h3 b1 k1 .double (2 : Int32) [(.double dl), (.double dm)] (.double 0) := U3
    have f3_0 : Arv Z h3 pb kpb .int (2 : Int32) [(.int sb0), (.int sb1)] (.int 0) := f2_0.other W3 (ne_pb_b1)
    have f3_1 : Exa Z h3 b1 "[D" := f2_2.wr W3
    have N3 := Fr.snoc X3 N2 g_b1
    have Z3 : n0 ≤ h3.size := Nat.le_trans Z2 (Keep.of_wr W3).1
    refine own_go (A := oW p e below T3 (oF_law m 220 (oi p0) (oi p1) (oi p2) (oi p3) (oi p4) (oi p5) (oj c0) .second (oj c1) .second (oj c2) .second (oj l0) .second (oj dd) .second (oj mm) .second (oi (p5 &&& (3 : Int32))) (oi (((p5.toUInt32 >>> ((2 : Int32) &&& 31).toUInt32).toInt32) &&& (3 : Int32))) (oi ((((p5.toUInt32 >>> ((4 : Int32) &&& 31).toUInt32).toInt32) &&& (268435455 : Int32)) % (3 : Int32))) (oj s0) .second (oj s1) .second (oR pb) (oj xp) .second (oR b1) .unset .unset .unset .unset .unset .unset .unset [(.int 2)])) (fun t k => by
      refine XS.astore X3.here hx rfl (hb hby at_217) rfl rfl (l' := #[(oi p0), (oi p1), (oi p2), (oi p3), (oi p4), (oi p5), (oj c0), .second, (oj c1), .second, (oj c2), .second, (oj l0), .second, (oj dd), .second, (oj mm), .second, (oi (p5 &&& (3 : Int32))), (oi (((p5.toUInt32 >>> ((2 : Int32) &&& 31).toUInt32).toInt32) &&& (3 : Int32))), (oi ((((p5.toUInt32 >>> ((4 : Int32) &&& 31).toUInt32).toInt32) &&& (268435455 : Int32)) % (3 : Int32))), (oj s0), .second, (oj s1), .second, (oR pb), (oj xp), .second, (oR b1), .unset, .unset, .unset, .unset, .unset, .unset, .unset]) rfl ?_
      refine XS.iconst X3.here hx rfl (hb hby at_219) ?_
      exact k) ?_
    obtain ⟨T4, h4, k4, X4, e4, E4, A4, Q4, st4⟩ := newPE X3 hx hZ (aty := .double) ow4 e3 (g := (oF_law m 220 (oi p0) (oi p1) (oi p2) (oi p3) (oi p4) (oi p5) (oj c0) .second (oj c1) .second (oj c2) .second (oj l0) .second (oj dd) .second (oj mm) .second (oi (p5 &&& (3 : Int32))) (oi (((p5.toUInt32 >>> ((2 : Int32) &&& 31).toUInt32).toInt32) &&& (3 : Int32))) (oi ((((p5.toUInt32 >>> ((4 : Int32) &&& 31).toUInt32).toInt32) &&& (268435455 : Int32)) % (3 : Int32))) (oj s0) .second (oj s1) .second (oR pb) (oj xp) .second (oR b1) .unset .unset .unset .unset .unset .unset .unset [(.int 2)])) rfl (hb hby at_220) rfl (by decide) (cap := 2) (by decide) (by decide) (by decide) (by decide) (ad := "[D") (by decide)
    obtain ⟨b4, g4⟩ : ∃ z, z = h3.size := ⟨_, rfl⟩
    rw [← g4] at A4 Q4 st4
    refine own_go st4 ?_
    have ne_pb_b4 : pb ≠ b4 := Nat.ne_of_lt (Nat.lt_of_lt_of_le f3_0.lt (Nat.le_of_eq g4.symm))
    have ne_b1_b4 : b1 ≠ b4 := Nat.ne_of_lt (Nat.lt_of_lt_of_le f3_1.lt (Nat.le_of_eq g4.symm))
    have g_b4 : n0 ≤ b4 := Nat.le_trans Z3 (Nat.le_of_eq g4.symm)
    have Z4 : n0 ≤ h4.size := Nat.le_trans Z3 E4.1
    have U4 : Arv Z h4 b4 k4 .double (2 : Int32) [] (.double 0) := Arv.new A4 (by decide)
    have V4 : Arv Z h4 b4 k4 .double (2 : Int32) [(.double 0), (.double 0)] (.double 0) := U4.pad (pad_rep [] (.double 0) 2)
    refine own_go (A := oW p e below T4 (oF_law m 227 (oi p0) (oi p1) (oi p2) (oi p3) (oi p4) (oi p5) (oj c0) .second (oj c1) .second (oj c2) .second (oj l0) .second (oj dd) .second (oj mm) .second (oi (p5 &&& (3 : Int32))) (oi (((p5.toUInt32 >>> ((2 : Int32) &&& 31).toUInt32).toInt32) &&& (3 : Int32))) (oi ((((p5.toUInt32 >>> ((4 : Int32) &&& 31).toUInt32).toInt32) &&& (268435455 : Int32)) % (3 : Int32))) (oj s0) .second (oj s1) .second (oR pb) (oj xp) .second (oR b1) .unset .unset .unset .unset .unset .unset .unset [(.double ux), (.int 0), (.ref b4), (.ref b4)])) (fun t k => by
      refine XS.dup X4.here hx rfl (hb hby at_222) rfl rfl ?_
      refine XS.iconst X4.here hx rfl (hb hby at_223) ?_
      show oW p e below T4 (oF_law m 224 (oi p0) (oi p1) (oi p2) (oi p3) (oi p4) (oi p5) (oj c0) .second (oj c1) .second (oj c2) .second (oj l0) .second (oj dd) .second (oj mm) .second (oi (p5 &&& (3 : Int32))) (oi (((p5.toUInt32 >>> ((2 : Int32) &&& 31).toUInt32).toInt32) &&& (3 : Int32))) (oi ((((p5.toUInt32 >>> ((4 : Int32) &&& 31).toUInt32).toInt32) &&& (268435455 : Int32)) % (3 : Int32))) (oj s0) .second (oj s1) .second (oR pb) (oj xp) .second (oR b1) .unset .unset .unset .unset .unset .unset .unset [(.int 0), (.ref b4), (.ref b4)]) _
      refine XS.lload X4.here hx rfl (hb hby at_224) rfl ?_
      refine XS.l2dS X4.here hx rfl (hb hby at_226) rfl hux ?_
      exact k) ?_
    obtain ⟨T5, h5, X5, e5, W5, U5, st5⟩ := own_stD X4 hx hZ e4 V4 (j := (0 : Int32)) ⟨by decide, by decide⟩ 0 rfl (Nat.le_of_ble_eq_true rfl) (g := (oF_law m 227 (oi p0) (oi p1) (oi p2) (oi p3) (oi p4) (oi p5) (oj c0) .second (oj c1) .second (oj c2) .second (oj l0) .second (oj dd) .second (oj mm) .second (oi (p5 &&& (3 : Int32))) (oi (((p5.toUInt32 >>> ((2 : Int32) &&& 31).toUInt32).toInt32) &&& (3 : Int32))) (oi ((((p5.toUInt32 >>> ((4 : Int32) &&& 31).toUInt32).toInt32) &&& (268435455 : Int32)) % (3 : Int32))) (oj s0) .second (oj s1) .second (oR pb) (oj xp) .second (oR b1) .unset .unset .unset .unset .unset .unset .unset [(.double ux), (.int 0), (.ref b4), (.ref b4)])) rfl rfl (hb hby at_227)
    refine own_go st5 ?_
    have V5 : Arv Z h5 b4 k4 .double (2 : Int32) [(.double ux), (.double 0)] (.double 0) := U5
    have f5_0 : Arv Z h5 pb kpb .int (2 : Int32) [(.int sb0), (.int sb1)] (.int 0) := (f3_0.ext E4).other W5 (ne_pb_b4)
    have f5_1 : Exa Z h5 b1 "[D" := (f3_1.ext E4).wr W5
    have f5_2 : Arv Z h5 b1 k1 .double (2 : Int32) [(.double dl), (.double dm)] (.double 0) := (V3.ext E4).other W5 (ne_b1_b4)
    have f5_4 : Exa Z h5 b4 "[D" := Q4.wr W5
    have N5 := Fr.snoc X5 N3 g_b4
    have Z5 : n0 ≤ h5.size := Nat.le_trans Z4 (Keep.of_wr W5).1
    refine own_go (A := oW p e below T5 (oF_law m 231 (oi p0) (oi p1) (oi p2) (oi p3) (oi p4) (oi p5) (oj c0) .second (oj c1) .second (oj c2) .second (oj l0) .second (oj dd) .second (oj mm) .second (oi (p5 &&& (3 : Int32))) (oi (((p5.toUInt32 >>> ((2 : Int32) &&& 31).toUInt32).toInt32) &&& (3 : Int32))) (oi ((((p5.toUInt32 >>> ((4 : Int32) &&& 31).toUInt32).toInt32) &&& (268435455 : Int32)) % (3 : Int32))) (oj s0) .second (oj s1) .second (oR pb) (oj xp) .second (oR b1) .unset .unset .unset .unset .unset .unset .unset [(.double FP.dconst0), (.int 1), (.ref b4), (.ref b4)])) (fun t k => by
      refine XS.dup X5.here hx rfl (hb hby at_228) rfl rfl ?_
      refine XS.iconst X5.here hx rfl (hb hby at_229) ?_
      refine XS.dconst0 X5.here hx rfl (hb hby at_230) rfl ?_
      exact k) ?_
    obtain ⟨T6, h6, X6, e6, W6, U6, st6⟩ := own_stD X5 hx hZ e5 V5 (j := (1 : Int32)) ⟨by decide, by decide⟩ 1 rfl (Nat.le_of_ble_eq_true rfl) (g := (oF_law m 231 (oi p0) (oi p1) (oi p2) (oi p3) (oi p4) (oi p5) (oj c0) .second (oj c1) .second (oj c2) .second (oj l0) .second (oj dd) .second (oj mm) .second (oi (p5 &&& (3 : Int32))) (oi (((p5.toUInt32 >>> ((2 : Int32) &&& 31).toUInt32).toInt32) &&& (3 : Int32))) (oi ((((p5.toUInt32 >>> ((4 : Int32) &&& 31).toUInt32).toInt32) &&& (268435455 : Int32)) % (3 : Int32))) (oj s0) .second (oj s1) .second (oR pb) (oj xp) .second (oR b1) .unset .unset .unset .unset .unset .unset .unset [(.double FP.dconst0), (.int 1), (.ref b4), (.ref b4)])) rfl rfl (hb hby at_231)
    refine own_go st6 ?_
    have V6 : Arv Z h6 b4 k4 .double (2 : Int32) [(.double ux), (.double FP.dconst0)] (.double 0) := U6
    have f6_0 : Arv Z h6 pb kpb .int (2 : Int32) [(.int sb0), (.int sb1)] (.int 0) := f5_0.other W6 (ne_pb_b4)
    have f6_1 : Exa Z h6 b1 "[D" := f5_1.wr W6
    have f6_2 : Arv Z h6 b1 k1 .double (2 : Int32) [(.double dl), (.double dm)] (.double 0) := f5_2.other W6 (ne_b1_b4)
    have f6_3 : Exa Z h6 b4 "[D" := f5_4.wr W6
    have N6 := Fr.snoc X6 N5 g_b4
    have Z6 : n0 ≤ h6.size := Nat.le_trans Z5 (Keep.of_wr W6).1
    refine own_go (A := oW p e below T6 (oF_law m 235 (oi p0) (oi p1) (oi p2) (oi p3) (oi p4) (oi p5) (oj c0) .second (oj c1) .second (oj c2) .second (oj l0) .second (oj dd) .second (oj mm) .second (oi (p5 &&& (3 : Int32))) (oi (((p5.toUInt32 >>> ((2 : Int32) &&& 31).toUInt32).toInt32) &&& (3 : Int32))) (oi ((((p5.toUInt32 >>> ((4 : Int32) &&& 31).toUInt32).toInt32) &&& (268435455 : Int32)) % (3 : Int32))) (oj s0) .second (oj s1) .second (oR pb) (oj xp) .second (oR b1) (oR b4) .unset .unset .unset .unset .unset .unset [(.int 2)])) (fun t k => by
      refine XS.astore X6.here hx rfl (hb hby at_232) rfl rfl (l' := #[(oi p0), (oi p1), (oi p2), (oi p3), (oi p4), (oi p5), (oj c0), .second, (oj c1), .second, (oj c2), .second, (oj l0), .second, (oj dd), .second, (oj mm), .second, (oi (p5 &&& (3 : Int32))), (oi (((p5.toUInt32 >>> ((2 : Int32) &&& 31).toUInt32).toInt32) &&& (3 : Int32))), (oi ((((p5.toUInt32 >>> ((4 : Int32) &&& 31).toUInt32).toInt32) &&& (268435455 : Int32)) % (3 : Int32))), (oj s0), .second, (oj s1), .second, (oR pb), (oj xp), .second, (oR b1), (oR b4), .unset, .unset, .unset, .unset, .unset, .unset]) rfl ?_
      refine XS.iconst X6.here hx rfl (hb hby at_234) ?_
      exact k) ?_
    obtain ⟨T7, h7, k7, X7, e7, E7, A7, Q7, st7⟩ := newPE X6 hx hZ (aty := .double) ow4 e6 (g := (oF_law m 235 (oi p0) (oi p1) (oi p2) (oi p3) (oi p4) (oi p5) (oj c0) .second (oj c1) .second (oj c2) .second (oj l0) .second (oj dd) .second (oj mm) .second (oi (p5 &&& (3 : Int32))) (oi (((p5.toUInt32 >>> ((2 : Int32) &&& 31).toUInt32).toInt32) &&& (3 : Int32))) (oi ((((p5.toUInt32 >>> ((4 : Int32) &&& 31).toUInt32).toInt32) &&& (268435455 : Int32)) % (3 : Int32))) (oj s0) .second (oj s1) .second (oR pb) (oj xp) .second (oR b1) (oR b4) .unset .unset .unset .unset .unset .unset [(.int 2)])) rfl (hb hby at_235) rfl (by decide) (cap := 2) (by decide) (by decide) (by decide) (by decide) (ad := "[D") (by decide)
    obtain ⟨b7, g7⟩ : ∃ z, z = h6.size := ⟨_, rfl⟩
    rw [← g7] at A7 Q7 st7
    refine own_go st7 ?_
    have ne_pb_b7 : pb ≠ b7 := Nat.ne_of_lt (Nat.lt_of_lt_of_le f6_0.lt (Nat.le_of_eq g7.symm))
    have ne_b1_b7 : b1 ≠ b7 := Nat.ne_of_lt (Nat.lt_of_lt_of_le f6_1.lt (Nat.le_of_eq g7.symm))
    have ne_b4_b7 : b4 ≠ b7 := Nat.ne_of_lt (Nat.lt_of_lt_of_le f6_3.lt (Nat.le_of_eq g7.symm))
    have g_b7 : n0 ≤ b7 := Nat.le_trans Z6 (Nat.le_of_eq g7.symm)
    have Z7 : n0 ≤ h7.size := Nat.le_trans Z6 E7.1
    have U7 : Arv Z h7 b7 k7 .double (2 : Int32) [] (.double 0) := Arv.new A7 (by decide)
    have V7 : Arv Z h7 b7 k7 .double (2 : Int32) [(.double 0), (.double 0)] (.double 0) := U7.pad (pad_rep [] (.double 0) 2)
    refine own_go (A := oW p e below T7 (oF_law m 240 (oi p0) (oi p1) (oi p2) (oi p3) (oi p4) (oi p5) (oj c0) .second (oj c1) .second (oj c2) .second (oj l0) .second (oj dd) .second (oj mm) .second (oi (p5 &&& (3 : Int32))) (oi (((p5.toUInt32 >>> ((2 : Int32) &&& 31).toUInt32).toInt32) &&& (3 : Int32))) (oi ((((p5.toUInt32 >>> ((4 : Int32) &&& 31).toUInt32).toInt32) &&& (268435455 : Int32)) % (3 : Int32))) (oj s0) .second (oj s1) .second (oR pb) (oj xp) .second (oR b1) (oR b4) .unset .unset .unset .unset .unset .unset [(.double FP.dconst0), (.int 0), (.ref b7), (.ref b7)])) (fun t k => by
      refine XS.dup X7.here hx rfl (hb hby at_237) rfl rfl ?_
      refine XS.iconst X7.here hx rfl (hb hby at_238) ?_
      show oW p e below T7 (oF_law m 239 (oi p0) (oi p1) (oi p2) (oi p3) (oi p4) (oi p5) (oj c0) .second (oj c1) .second (oj c2) .second (oj l0) .second (oj dd) .second (oj mm) .second (oi (p5 &&& (3 : Int32))) (oi (((p5.toUInt32 >>> ((2 : Int32) &&& 31).toUInt32).toInt32) &&& (3 : Int32))) (oi ((((p5.toUInt32 >>> ((4 : Int32) &&& 31).toUInt32).toInt32) &&& (268435455 : Int32)) % (3 : Int32))) (oj s0) .second (oj s1) .second (oR pb) (oj xp) .second (oR b1) (oR b4) .unset .unset .unset .unset .unset .unset [(.int 0), (.ref b7), (.ref b7)]) _
      refine XS.dconst0 X7.here hx rfl (hb hby at_239) rfl ?_
      exact k) ?_
    obtain ⟨T8, h8, X8, e8, W8, U8, st8⟩ := own_stD X7 hx hZ e7 V7 (j := (0 : Int32)) ⟨by decide, by decide⟩ 0 rfl (Nat.le_of_ble_eq_true rfl) (g := (oF_law m 240 (oi p0) (oi p1) (oi p2) (oi p3) (oi p4) (oi p5) (oj c0) .second (oj c1) .second (oj c2) .second (oj l0) .second (oj dd) .second (oj mm) .second (oi (p5 &&& (3 : Int32))) (oi (((p5.toUInt32 >>> ((2 : Int32) &&& 31).toUInt32).toInt32) &&& (3 : Int32))) (oi ((((p5.toUInt32 >>> ((4 : Int32) &&& 31).toUInt32).toInt32) &&& (268435455 : Int32)) % (3 : Int32))) (oj s0) .second (oj s1) .second (oR pb) (oj xp) .second (oR b1) (oR b4) .unset .unset .unset .unset .unset .unset [(.double FP.dconst0), (.int 0), (.ref b7), (.ref b7)])) rfl rfl (hb hby at_240)
    refine own_go st8 ?_
    have V8 : Arv Z h8 b7 k7 .double (2 : Int32) [(.double FP.dconst0), (.double 0)] (.double 0) := U8
    have f8_0 : Arv Z h8 pb kpb .int (2 : Int32) [(.int sb0), (.int sb1)] (.int 0) := (f6_0.ext E7).other W8 (ne_pb_b7)
    have f8_1 : Exa Z h8 b1 "[D" := (f6_1.ext E7).wr W8
    have f8_2 : Arv Z h8 b1 k1 .double (2 : Int32) [(.double dl), (.double dm)] (.double 0) := (f6_2.ext E7).other W8 (ne_b1_b7)
    have f8_3 : Exa Z h8 b4 "[D" := (f6_3.ext E7).wr W8
    have f8_4 : Arv Z h8 b4 k4 .double (2 : Int32) [(.double ux), (.double FP.dconst0)] (.double 0) := (V6.ext E7).other W8 (ne_b4_b7)
    have f8_6 : Exa Z h8 b7 "[D" := Q7.wr W8
    have N8 := Fr.snoc X8 N6 g_b7
    have Z8 : n0 ≤ h8.size := Nat.le_trans Z7 (Keep.of_wr W8).1
    refine own_go (A := oW p e below T8 (oF_law m 246 (oi p0) (oi p1) (oi p2) (oi p3) (oi p4) (oi p5) (oj c0) .second (oj c1) .second (oj c2) .second (oj l0) .second (oj dd) .second (oj mm) .second (oi (p5 &&& (3 : Int32))) (oi (((p5.toUInt32 >>> ((2 : Int32) &&& 31).toUInt32).toInt32) &&& (3 : Int32))) (oi ((((p5.toUInt32 >>> ((4 : Int32) &&& 31).toUInt32).toInt32) &&& (268435455 : Int32)) % (3 : Int32))) (oj s0) .second (oj s1) .second (oR pb) (oj xp) .second (oR b1) (oR b4) .unset .unset .unset .unset .unset .unset [(.double uy), (.int 1), (.ref b7), (.ref b7)])) (fun t k => by
      refine XS.dup X8.here hx rfl (hb hby at_241) rfl rfl ?_
      refine XS.iconst X8.here hx rfl (hb hby at_242) ?_
      refine XS.lload X8.here hx rfl (hb hby at_243) rfl ?_
      refine XS.l2dS X8.here hx rfl (hb hby at_245) rfl huy ?_
      exact k) ?_
    obtain ⟨T9, h9, X9, e9, W9, U9, st9⟩ := own_stD X8 hx hZ e8 V8 (j := (1 : Int32)) ⟨by decide, by decide⟩ 1 rfl (Nat.le_of_ble_eq_true rfl) (g := (oF_law m 246 (oi p0) (oi p1) (oi p2) (oi p3) (oi p4) (oi p5) (oj c0) .second (oj c1) .second (oj c2) .second (oj l0) .second (oj dd) .second (oj mm) .second (oi (p5 &&& (3 : Int32))) (oi (((p5.toUInt32 >>> ((2 : Int32) &&& 31).toUInt32).toInt32) &&& (3 : Int32))) (oi ((((p5.toUInt32 >>> ((4 : Int32) &&& 31).toUInt32).toInt32) &&& (268435455 : Int32)) % (3 : Int32))) (oj s0) .second (oj s1) .second (oR pb) (oj xp) .second (oR b1) (oR b4) .unset .unset .unset .unset .unset .unset [(.double uy), (.int 1), (.ref b7), (.ref b7)])) rfl rfl (hb hby at_246)
    refine own_go st9 ?_
    have V9 : Arv Z h9 b7 k7 .double (2 : Int32) [(.double FP.dconst0), (.double uy)] (.double 0) := U9
    have f9_0 : Arv Z h9 pb kpb .int (2 : Int32) [(.int sb0), (.int sb1)] (.int 0) := f8_0.other W9 (ne_pb_b7)
    have f9_1 : Exa Z h9 b1 "[D" := f8_1.wr W9
    have f9_2 : Arv Z h9 b1 k1 .double (2 : Int32) [(.double dl), (.double dm)] (.double 0) := f8_2.other W9 (ne_b1_b7)
    have f9_3 : Exa Z h9 b4 "[D" := f8_3.wr W9
    have f9_4 : Arv Z h9 b4 k4 .double (2 : Int32) [(.double ux), (.double FP.dconst0)] (.double 0) := f8_4.other W9 (ne_b4_b7)
    have f9_5 : Exa Z h9 b7 "[D" := f8_6.wr W9
    have N9 := Fr.snoc X9 N8 g_b7
    have Z9 : n0 ≤ h9.size := Nat.le_trans Z8 (Keep.of_wr W9).1
    refine own_go (A := oW p e below T9 (oF_law m 250 (oi p0) (oi p1) (oi p2) (oi p3) (oi p4) (oi p5) (oj c0) .second (oj c1) .second (oj c2) .second (oj l0) .second (oj dd) .second (oj mm) .second (oi (p5 &&& (3 : Int32))) (oi (((p5.toUInt32 >>> ((2 : Int32) &&& 31).toUInt32).toInt32) &&& (3 : Int32))) (oi ((((p5.toUInt32 >>> ((4 : Int32) &&& 31).toUInt32).toInt32) &&& (268435455 : Int32)) % (3 : Int32))) (oj s0) .second (oj s1) .second (oR pb) (oj xp) .second (oR b1) (oR b4) (oR b7) .unset .unset .unset .unset .unset [(.int 2)])) (fun t k => by
      refine XS.astore X9.here hx rfl (hb hby at_247) rfl rfl (l' := #[(oi p0), (oi p1), (oi p2), (oi p3), (oi p4), (oi p5), (oj c0), .second, (oj c1), .second, (oj c2), .second, (oj l0), .second, (oj dd), .second, (oj mm), .second, (oi (p5 &&& (3 : Int32))), (oi (((p5.toUInt32 >>> ((2 : Int32) &&& 31).toUInt32).toInt32) &&& (3 : Int32))), (oi ((((p5.toUInt32 >>> ((4 : Int32) &&& 31).toUInt32).toInt32) &&& (268435455 : Int32)) % (3 : Int32))), (oj s0), .second, (oj s1), .second, (oR pb), (oj xp), .second, (oR b1), (oR b4), (oR b7), .unset, .unset, .unset, .unset, .unset]) rfl ?_
      refine XS.iconst X9.here hx rfl (hb hby at_249) ?_
      exact k) ?_
    obtain ⟨T10, h10, k10, X10, e10, E10, A10, Q10, st10⟩ := newPE X9 hx hZ (aty := .double) ow4 e9 (g := (oF_law m 250 (oi p0) (oi p1) (oi p2) (oi p3) (oi p4) (oi p5) (oj c0) .second (oj c1) .second (oj c2) .second (oj l0) .second (oj dd) .second (oj mm) .second (oi (p5 &&& (3 : Int32))) (oi (((p5.toUInt32 >>> ((2 : Int32) &&& 31).toUInt32).toInt32) &&& (3 : Int32))) (oi ((((p5.toUInt32 >>> ((4 : Int32) &&& 31).toUInt32).toInt32) &&& (268435455 : Int32)) % (3 : Int32))) (oj s0) .second (oj s1) .second (oR pb) (oj xp) .second (oR b1) (oR b4) (oR b7) .unset .unset .unset .unset .unset [(.int 2)])) rfl (hb hby at_250) rfl (by decide) (cap := 2) (by decide) (by decide) (by decide) (by decide) (ad := "[D") (by decide)
    obtain ⟨b10, g10⟩ : ∃ z, z = h9.size := ⟨_, rfl⟩
    rw [← g10] at A10 Q10 st10
    refine own_go st10 ?_
    have ne_pb_b10 : pb ≠ b10 := Nat.ne_of_lt (Nat.lt_of_lt_of_le f9_0.lt (Nat.le_of_eq g10.symm))
    have ne_b1_b10 : b1 ≠ b10 := Nat.ne_of_lt (Nat.lt_of_lt_of_le f9_1.lt (Nat.le_of_eq g10.symm))
    have ne_b4_b10 : b4 ≠ b10 := Nat.ne_of_lt (Nat.lt_of_lt_of_le f9_3.lt (Nat.le_of_eq g10.symm))
    have ne_b7_b10 : b7 ≠ b10 := Nat.ne_of_lt (Nat.lt_of_lt_of_le f9_5.lt (Nat.le_of_eq g10.symm))
    have g_b10 : n0 ≤ b10 := Nat.le_trans Z9 (Nat.le_of_eq g10.symm)
    have Z10 : n0 ≤ h10.size := Nat.le_trans Z9 E10.1
    have U10 : Arv Z h10 b10 k10 .double (2 : Int32) [] (.double 0) := Arv.new A10 (by decide)
    have V10 : Arv Z h10 b10 k10 .double (2 : Int32) [(.double 0), (.double 0)] (.double 0) := U10.pad (pad_rep [] (.double 0) 2)
    refine own_go (A := oW p e below T10 (oF_law m 255 (oi p0) (oi p1) (oi p2) (oi p3) (oi p4) (oi p5) (oj c0) .second (oj c1) .second (oj c2) .second (oj l0) .second (oj dd) .second (oj mm) .second (oi (p5 &&& (3 : Int32))) (oi (((p5.toUInt32 >>> ((2 : Int32) &&& 31).toUInt32).toInt32) &&& (3 : Int32))) (oi ((((p5.toUInt32 >>> ((4 : Int32) &&& 31).toUInt32).toInt32) &&& (268435455 : Int32)) % (3 : Int32))) (oj s0) .second (oj s1) .second (oR pb) (oj xp) .second (oR b1) (oR b4) (oR b7) .unset .unset .unset .unset .unset [(.double FP.dconst1), (.int 0), (.ref b10), (.ref b10)])) (fun t k => by
      refine XS.dup X10.here hx rfl (hb hby at_252) rfl rfl ?_
      refine XS.iconst X10.here hx rfl (hb hby at_253) ?_
      show oW p e below T10 (oF_law m 254 (oi p0) (oi p1) (oi p2) (oi p3) (oi p4) (oi p5) (oj c0) .second (oj c1) .second (oj c2) .second (oj l0) .second (oj dd) .second (oj mm) .second (oi (p5 &&& (3 : Int32))) (oi (((p5.toUInt32 >>> ((2 : Int32) &&& 31).toUInt32).toInt32) &&& (3 : Int32))) (oi ((((p5.toUInt32 >>> ((4 : Int32) &&& 31).toUInt32).toInt32) &&& (268435455 : Int32)) % (3 : Int32))) (oj s0) .second (oj s1) .second (oR pb) (oj xp) .second (oR b1) (oR b4) (oR b7) .unset .unset .unset .unset .unset [(.int 0), (.ref b10), (.ref b10)]) _
      refine XS.dconst1 X10.here hx rfl (hb hby at_254) rfl ?_
      exact k) ?_
    obtain ⟨T11, h11, X11, e11, W11, U11, st11⟩ := own_stD X10 hx hZ e10 V10 (j := (0 : Int32)) ⟨by decide, by decide⟩ 0 rfl (Nat.le_of_ble_eq_true rfl) (g := (oF_law m 255 (oi p0) (oi p1) (oi p2) (oi p3) (oi p4) (oi p5) (oj c0) .second (oj c1) .second (oj c2) .second (oj l0) .second (oj dd) .second (oj mm) .second (oi (p5 &&& (3 : Int32))) (oi (((p5.toUInt32 >>> ((2 : Int32) &&& 31).toUInt32).toInt32) &&& (3 : Int32))) (oi ((((p5.toUInt32 >>> ((4 : Int32) &&& 31).toUInt32).toInt32) &&& (268435455 : Int32)) % (3 : Int32))) (oj s0) .second (oj s1) .second (oR pb) (oj xp) .second (oR b1) (oR b4) (oR b7) .unset .unset .unset .unset .unset [(.double FP.dconst1), (.int 0), (.ref b10), (.ref b10)])) rfl rfl (hb hby at_255)
    refine own_go st11 ?_
    have V11 : Arv Z h11 b10 k10 .double (2 : Int32) [(.double FP.dconst1), (.double 0)] (.double 0) := U11
    have f11_0 : Arv Z h11 pb kpb .int (2 : Int32) [(.int sb0), (.int sb1)] (.int 0) := (f9_0.ext E10).other W11 (ne_pb_b10)
    have f11_1 : Exa Z h11 b1 "[D" := (f9_1.ext E10).wr W11
    have f11_2 : Arv Z h11 b1 k1 .double (2 : Int32) [(.double dl), (.double dm)] (.double 0) := (f9_2.ext E10).other W11 (ne_b1_b10)
    have f11_3 : Exa Z h11 b4 "[D" := (f9_3.ext E10).wr W11
    have f11_4 : Arv Z h11 b4 k4 .double (2 : Int32) [(.double ux), (.double FP.dconst0)] (.double 0) := (f9_4.ext E10).other W11 (ne_b4_b10)
    have f11_5 : Exa Z h11 b7 "[D" := (f9_5.ext E10).wr W11
    have f11_6 : Arv Z h11 b7 k7 .double (2 : Int32) [(.double FP.dconst0), (.double uy)] (.double 0) := (V9.ext E10).other W11 (ne_b7_b10)
    have f11_8 : Exa Z h11 b10 "[D" := Q10.wr W11
    have N11 := Fr.snoc X11 N9 g_b10
    have Z11 : n0 ≤ h11.size := Nat.le_trans Z10 (Keep.of_wr W11).1
    refine own_go (A := oW p e below T11 (oF_law m 259 (oi p0) (oi p1) (oi p2) (oi p3) (oi p4) (oi p5) (oj c0) .second (oj c1) .second (oj c2) .second (oj l0) .second (oj dd) .second (oj mm) .second (oi (p5 &&& (3 : Int32))) (oi (((p5.toUInt32 >>> ((2 : Int32) &&& 31).toUInt32).toInt32) &&& (3 : Int32))) (oi ((((p5.toUInt32 >>> ((4 : Int32) &&& 31).toUInt32).toInt32) &&& (268435455 : Int32)) % (3 : Int32))) (oj s0) .second (oj s1) .second (oR pb) (oj xp) .second (oR b1) (oR b4) (oR b7) .unset .unset .unset .unset .unset [(.double FP.dconst1), (.int 1), (.ref b10), (.ref b10)])) (fun t k => by
      refine XS.dup X11.here hx rfl (hb hby at_256) rfl rfl ?_
      refine XS.iconst X11.here hx rfl (hb hby at_257) ?_
      refine XS.dconst1 X11.here hx rfl (hb hby at_258) rfl ?_
      exact k) ?_
    obtain ⟨T12, h12, X12, e12, W12, U12, st12⟩ := own_stD X11 hx hZ e11 V11 (j := (1 : Int32)) ⟨by decide, by decide⟩ 1 rfl (Nat.le_of_ble_eq_true rfl) (g := (oF_law m 259 (oi p0) (oi p1) (oi p2) (oi p3) (oi p4) (oi p5) (oj c0) .second (oj c1) .second (oj c2) .second (oj l0) .second (oj dd) .second (oj mm) .second (oi (p5 &&& (3 : Int32))) (oi (((p5.toUInt32 >>> ((2 : Int32) &&& 31).toUInt32).toInt32) &&& (3 : Int32))) (oi ((((p5.toUInt32 >>> ((4 : Int32) &&& 31).toUInt32).toInt32) &&& (268435455 : Int32)) % (3 : Int32))) (oj s0) .second (oj s1) .second (oR pb) (oj xp) .second (oR b1) (oR b4) (oR b7) .unset .unset .unset .unset .unset [(.double FP.dconst1), (.int 1), (.ref b10), (.ref b10)])) rfl rfl (hb hby at_259)
    refine own_go st12 ?_
    have V12 : Arv Z h12 b10 k10 .double (2 : Int32) [(.double FP.dconst1), (.double FP.dconst1)] (.double 0) := U12
    have f12_0 : Arv Z h12 pb kpb .int (2 : Int32) [(.int sb0), (.int sb1)] (.int 0) := f11_0.other W12 (ne_pb_b10)
    have f12_1 : Exa Z h12 b1 "[D" := f11_1.wr W12
    have f12_2 : Arv Z h12 b1 k1 .double (2 : Int32) [(.double dl), (.double dm)] (.double 0) := f11_2.other W12 (ne_b1_b10)
    have f12_3 : Exa Z h12 b4 "[D" := f11_3.wr W12
    have f12_4 : Arv Z h12 b4 k4 .double (2 : Int32) [(.double ux), (.double FP.dconst0)] (.double 0) := f11_4.other W12 (ne_b4_b10)
    have f12_5 : Exa Z h12 b7 "[D" := f11_5.wr W12
    have f12_6 : Arv Z h12 b7 k7 .double (2 : Int32) [(.double FP.dconst0), (.double uy)] (.double 0) := f11_6.other W12 (ne_b7_b10)
    have f12_7 : Exa Z h12 b10 "[D" := f11_8.wr W12
    have N12 := Fr.snoc X12 N11 g_b10
    have Z12 : n0 ≤ h12.size := Nat.le_trans Z11 (Keep.of_wr W12).1
    refine own_go (A := oW p e below T12 (oF_law m 262 (oi p0) (oi p1) (oi p2) (oi p3) (oi p4) (oi p5) (oj c0) .second (oj c1) .second (oj c2) .second (oj l0) .second (oj dd) .second (oj mm) .second (oi (p5 &&& (3 : Int32))) (oi (((p5.toUInt32 >>> ((2 : Int32) &&& 31).toUInt32).toInt32) &&& (3 : Int32))) (oi ((((p5.toUInt32 >>> ((4 : Int32) &&& 31).toUInt32).toInt32) &&& (268435455 : Int32)) % (3 : Int32))) (oj s0) .second (oj s1) .second (oR pb) (oj xp) .second (oR b1) (oR b4) (oR b7) (oR b10) .unset .unset .unset .unset [])) (fun t k => by
      refine XS.astore X12.here hx rfl (hb hby at_260) rfl rfl (l' := #[(oi p0), (oi p1), (oi p2), (oi p3), (oi p4), (oi p5), (oj c0), .second, (oj c1), .second, (oj c2), .second, (oj l0), .second, (oj dd), .second, (oj mm), .second, (oi (p5 &&& (3 : Int32))), (oi (((p5.toUInt32 >>> ((2 : Int32) &&& 31).toUInt32).toInt32) &&& (3 : Int32))), (oi ((((p5.toUInt32 >>> ((4 : Int32) &&& 31).toUInt32).toInt32) &&& (268435455 : Int32)) % (3 : Int32))), (oj s0), .second, (oj s1), .second, (oR pb), (oj xp), .second, (oR b1), (oR b4), (oR b7), (oR b10), .unset, .unset, .unset, .unset]) rfl ?_
      exact k) ?_
    obtain ⟨T13, h13, X13, e13, E13, A13, D13, -, st13⟩ := newO X12 hx hZ hown ow5 ow6 ow7 e12 (g := (oF_law m 262 (oi p0) (oi p1) (oi p2) (oi p3) (oi p4) (oi p5) (oj c0) .second (oj c1) .second (oj c2) .second (oj l0) .second (oj dd) .second (oj mm) .second (oi (p5 &&& (3 : Int32))) (oi (((p5.toUInt32 >>> ((2 : Int32) &&& 31).toUInt32).toInt32) &&& (3 : Int32))) (oi ((((p5.toUInt32 >>> ((4 : Int32) &&& 31).toUInt32).toInt32) &&& (268435455 : Int32)) % (3 : Int32))) (oj s0) .second (oj s1) .second (oR pb) (oj xp) .second (oR b1) (oR b4) (oR b7) (oR b10) .unset .unset .unset .unset [])) rfl (hb hby at_262) (by decide) (by decide)
    obtain ⟨b13, g13⟩ : ∃ z, z = h12.size := ⟨_, rfl⟩
    rw [← g13] at A13 D13 st13
    refine own_go st13 ?_
    have ne_pb_b13 : pb ≠ b13 := Nat.ne_of_lt (Nat.lt_of_lt_of_le f12_0.lt (Nat.le_of_eq g13.symm))
    have ne_b1_b13 : b1 ≠ b13 := Nat.ne_of_lt (Nat.lt_of_lt_of_le f12_1.lt (Nat.le_of_eq g13.symm))
    have ne_b4_b13 : b4 ≠ b13 := Nat.ne_of_lt (Nat.lt_of_lt_of_le f12_3.lt (Nat.le_of_eq g13.symm))
    have ne_b7_b13 : b7 ≠ b13 := Nat.ne_of_lt (Nat.lt_of_lt_of_le f12_5.lt (Nat.le_of_eq g13.symm))
    have ne_b10_b13 : b10 ≠ b13 := Nat.ne_of_lt (Nat.lt_of_lt_of_le f12_7.lt (Nat.le_of_eq g13.symm))
    have g_b13 : n0 ≤ b13 := Nat.le_trans Z12 (Nat.le_of_eq g13.symm)
    have Z13 : n0 ≤ h13.size := Nat.le_trans Z12 E13.1
    have F13_columns : Fld Z h13 b13 "com/example/composure/composure/select/Simplex" "columns" "[[D" .null := D13 (Or.inl ow17) (ty := (.array (.array .double))) (by decide)
    have F13_costs : Fld Z h13 b13 "com/example/composure/composure/select/Simplex" "costs" "[D" .null := D13 (Or.inl ow19) (ty := (.array .double)) (by decide)
    have F13_barred : Fld Z h13 b13 "com/example/composure/composure/select/Simplex" "barred" "[Z" .null := D13 (Or.inl ow22) (ty := (.array .boolean)) (by decide)
    have F13_basic : Fld Z h13 b13 "com/example/composure/composure/select/Simplex" "basic" "[Z" .null := D13 (Or.inl ow24) (ty := (.array .boolean)) (by decide)
    have F13_rows : Fld Z h13 b13 "com/example/composure/composure/select/Simplex" "rows" "I" (.int 0) := D13 (Or.inr ow26) (ty := .int) (by decide)
    have F13_limits : Fld Z h13 b13 "com/example/composure/composure/select/Simplex" "limits" "[D" .null := D13 (Or.inr ow36) (ty := (.array .double)) (by decide)
    have F13_basis : Fld Z h13 b13 "com/example/composure/composure/select/Simplex" "basis" "[I" .null := D13 (Or.inr ow38) (ty := (.array .int)) (by decide)
    have F13_inverse : Fld Z h13 b13 "com/example/composure/composure/select/Simplex" "inverse" "[[D" .null := D13 (Or.inr ow41) (ty := (.array (.array .double))) (by decide)
    have F13_values : Fld Z h13 b13 "com/example/composure/composure/select/Simplex" "values" "[D" .null := D13 (Or.inr ow43) (ty := (.array .double)) (by decide)
    have F13_elimination : Fld Z h13 b13 "com/example/composure/composure/select/Simplex" "elimination" "[[D" .null := D13 (Or.inr ow45) (ty := (.array (.array .double))) (by decide)
    have F13_prices : Fld Z h13 b13 "com/example/composure/composure/select/Simplex" "prices" "[D" .null := D13 (Or.inr ow47) (ty := (.array .double)) (by decide)
    have F13_direction : Fld Z h13 b13 "com/example/composure/composure/select/Simplex" "direction" "[D" .null := D13 (Or.inr ow49) (ty := (.array .double)) (by decide)
    have F13_count : Fld Z h13 b13 "com/example/composure/composure/select/Simplex" "count" "I" (.int 0) := D13 (Or.inl ow60) (ty := .int) (by decide)
    refine own_go (A := oW p e below T13 (oF_law m 268 (oi p0) (oi p1) (oi p2) (oi p3) (oi p4) (oi p5) (oj c0) .second (oj c1) .second (oj c2) .second (oj l0) .second (oj dd) .second (oj mm) .second (oi (p5 &&& (3 : Int32))) (oi (((p5.toUInt32 >>> ((2 : Int32) &&& 31).toUInt32).toInt32) &&& (3 : Int32))) (oi ((((p5.toUInt32 >>> ((4 : Int32) &&& 31).toUInt32).toInt32) &&& (268435455 : Int32)) % (3 : Int32))) (oj s0) .second (oj s1) .second (oR pb) (oj xp) .second (oR b1) (oR b4) (oR b7) (oR b10) .unset .unset .unset .unset [(.ref b1), (.ref b13), (.ref b13)])) (fun t k => by
      refine XS.dup X13.here hx rfl (hb hby at_265) rfl rfl ?_
      refine XS.aload X13.here hx rfl (hb hby at_266) rfl rfl ?_
      exact k) ?_
    obtain ⟨_, _, ⟨T14, L14, k14, n14⟩, -, X14, ⟨Lc14, hQ14, l14, y14, z14⟩, st14⟩ := X13.specialBack hx (y := (⟨"com/example/composure/composure/select/Simplex", "<init>", "([D)V"⟩ : MethodName)) rfl hown (mvT hZ ow8) (mvT hZ ow9) (mvT hZ ow10) (by decide) (backOf (W := 1) (own_rm_init l Z a0 hw [] b13 b1 k1 dl dm h13 n0 Z13 g_b13 (Ne.symm ne_b1_b13) A13 F13_columns F13_costs F13_barred F13_basic F13_rows F13_limits F13_basis F13_inverse F13_values F13_elimination F13_prices F13_direction F13_count (f12_2.ext E13) (f12_1.ext E13)) hZ ow10 ow7 (by decide) (by decide)) (g := (oF_law m 268 (oi p0) (oi p1) (oi p2) (oi p3) (oi p4) (oi p5) (oj c0) .second (oj c1) .second (oj c2) .second (oj l0) .second (oj dd) .second (oj mm) .second (oi (p5 &&& (3 : Int32))) (oi (((p5.toUInt32 >>> ((2 : Int32) &&& 31).toUInt32).toInt32) &&& (3 : Int32))) (oi ((((p5.toUInt32 >>> ((4 : Int32) &&& 31).toUInt32).toInt32) &&& (268435455 : Int32)) % (3 : Int32))) (oj s0) .second (oj s1) .second (oR pb) (oj xp) .second (oR b1) (oR b4) (oR b7) (oR b10) .unset .unset .unset .unset [(.ref b1), (.ref b13), (.ref b13)])) rfl (by rw [hml]; rfl) (Steps.refl _) (a := b13) (argsL := [(.ref b1)]) (rest := [(.ref b13)]) (lenOf own_pd_285bD29V rfl) rfl (by show 2 * 0 + _ ≤ _; exact Nat.le_of_eq rfl) (hb hby at_268) (fun _ _ => ⟨rfl, e13, (by decide : 6 + 15 ≤ _), (by decide : 23 + 90 ≤ _)⟩)
    dsimp only [Pt.U, Pt.locs, Pt.cells, Pt.slots] at X14 l14 y14 z14 st14 hQ14
    subst l14 y14 z14
    obtain ⟨co, cs, bc, li, ba, iv, i0, i1, vl, el, m0, m1, kco, kcs, kbc, kli, kba, kiv, ki0, ki1, kvl, kel, km0, km1, rfl, N14q, K14q, nd14, ⟨sz_co, sz_cs, sz_bc, sz_li, sz_ba, sz_iv, sz_i0, sz_i1, sz_vl, sz_el, sz_m0, sz_m1⟩, Oco, Oel, p14_0, p14_1, p14_2, p14_3, p14_4, p14_5, p14_6, p14_7, p14_8, p14_9, p14_10, p14_11, p14_12, p14_13, p14_14, p14_15, p14_16, p14_17, p14_18, p14_19, p14_20, p14_21, p14_22, p14_23⟩ := hQ14
    have N14 := Fr.app N12 N14q
    have g_co : n0 ≤ co := Nat.le_trans Z13 sz_co
    have g_cs : n0 ≤ cs := Nat.le_trans Z13 sz_cs
    have g_bc : n0 ≤ bc := Nat.le_trans Z13 sz_bc
    have g_li : n0 ≤ li := Nat.le_trans Z13 sz_li
    have g_ba : n0 ≤ ba := Nat.le_trans Z13 sz_ba
    have g_iv : n0 ≤ iv := Nat.le_trans Z13 sz_iv
    have g_i0 : n0 ≤ i0 := Nat.le_trans Z13 sz_i0
    have g_i1 : n0 ≤ i1 := Nat.le_trans Z13 sz_i1
    have g_vl : n0 ≤ vl := Nat.le_trans Z13 sz_vl
    have g_el : n0 ≤ el := Nat.le_trans Z13 sz_el
    have g_m0 : n0 ≤ m0 := Nat.le_trans Z13 sz_m0
    have g_m1 : n0 ≤ m1 := Nat.le_trans Z13 sz_m1
    have ne_pb_co : pb ≠ co := Nat.ne_of_lt (Nat.lt_of_lt_of_le (f12_0.ext E13).lt sz_co)
    have ne_pb_cs : pb ≠ cs := Nat.ne_of_lt (Nat.lt_of_lt_of_le (f12_0.ext E13).lt sz_cs)
    have ne_pb_bc : pb ≠ bc := Nat.ne_of_lt (Nat.lt_of_lt_of_le (f12_0.ext E13).lt sz_bc)
    have ne_pb_li : pb ≠ li := Nat.ne_of_lt (Nat.lt_of_lt_of_le (f12_0.ext E13).lt sz_li)
    have ne_pb_ba : pb ≠ ba := Nat.ne_of_lt (Nat.lt_of_lt_of_le (f12_0.ext E13).lt sz_ba)
    have ne_pb_iv : pb ≠ iv := Nat.ne_of_lt (Nat.lt_of_lt_of_le (f12_0.ext E13).lt sz_iv)
    have ne_pb_i0 : pb ≠ i0 := Nat.ne_of_lt (Nat.lt_of_lt_of_le (f12_0.ext E13).lt sz_i0)
    have ne_pb_i1 : pb ≠ i1 := Nat.ne_of_lt (Nat.lt_of_lt_of_le (f12_0.ext E13).lt sz_i1)
    have ne_pb_vl : pb ≠ vl := Nat.ne_of_lt (Nat.lt_of_lt_of_le (f12_0.ext E13).lt sz_vl)
    have ne_pb_el : pb ≠ el := Nat.ne_of_lt (Nat.lt_of_lt_of_le (f12_0.ext E13).lt sz_el)
    have ne_pb_m0 : pb ≠ m0 := Nat.ne_of_lt (Nat.lt_of_lt_of_le (f12_0.ext E13).lt sz_m0)
    have ne_pb_m1 : pb ≠ m1 := Nat.ne_of_lt (Nat.lt_of_lt_of_le (f12_0.ext E13).lt sz_m1)
    have ne_b1_co : b1 ≠ co := Nat.ne_of_lt (Nat.lt_of_lt_of_le (f12_1.ext E13).lt sz_co)
    have ne_b1_cs : b1 ≠ cs := Nat.ne_of_lt (Nat.lt_of_lt_of_le (f12_1.ext E13).lt sz_cs)
    have ne_b1_bc : b1 ≠ bc := Nat.ne_of_lt (Nat.lt_of_lt_of_le (f12_1.ext E13).lt sz_bc)
    have ne_b1_li : b1 ≠ li := Nat.ne_of_lt (Nat.lt_of_lt_of_le (f12_1.ext E13).lt sz_li)
    have ne_b1_ba : b1 ≠ ba := Nat.ne_of_lt (Nat.lt_of_lt_of_le (f12_1.ext E13).lt sz_ba)
    have ne_b1_iv : b1 ≠ iv := Nat.ne_of_lt (Nat.lt_of_lt_of_le (f12_1.ext E13).lt sz_iv)
    have ne_b1_i0 : b1 ≠ i0 := Nat.ne_of_lt (Nat.lt_of_lt_of_le (f12_1.ext E13).lt sz_i0)
    have ne_b1_i1 : b1 ≠ i1 := Nat.ne_of_lt (Nat.lt_of_lt_of_le (f12_1.ext E13).lt sz_i1)
    have ne_b1_vl : b1 ≠ vl := Nat.ne_of_lt (Nat.lt_of_lt_of_le (f12_1.ext E13).lt sz_vl)
    have ne_b1_el : b1 ≠ el := Nat.ne_of_lt (Nat.lt_of_lt_of_le (f12_1.ext E13).lt sz_el)
    have ne_b1_m0 : b1 ≠ m0 := Nat.ne_of_lt (Nat.lt_of_lt_of_le (f12_1.ext E13).lt sz_m0)
    have ne_b1_m1 : b1 ≠ m1 := Nat.ne_of_lt (Nat.lt_of_lt_of_le (f12_1.ext E13).lt sz_m1)
    have ne_b4_co : b4 ≠ co := Nat.ne_of_lt (Nat.lt_of_lt_of_le (f12_3.ext E13).lt sz_co)
    have ne_b4_cs : b4 ≠ cs := Nat.ne_of_lt (Nat.lt_of_lt_of_le (f12_3.ext E13).lt sz_cs)
    have ne_b4_bc : b4 ≠ bc := Nat.ne_of_lt (Nat.lt_of_lt_of_le (f12_3.ext E13).lt sz_bc)
    have ne_b4_li : b4 ≠ li := Nat.ne_of_lt (Nat.lt_of_lt_of_le (f12_3.ext E13).lt sz_li)
    have ne_b4_ba : b4 ≠ ba := Nat.ne_of_lt (Nat.lt_of_lt_of_le (f12_3.ext E13).lt sz_ba)
    have ne_b4_iv : b4 ≠ iv := Nat.ne_of_lt (Nat.lt_of_lt_of_le (f12_3.ext E13).lt sz_iv)
    have ne_b4_i0 : b4 ≠ i0 := Nat.ne_of_lt (Nat.lt_of_lt_of_le (f12_3.ext E13).lt sz_i0)
    have ne_b4_i1 : b4 ≠ i1 := Nat.ne_of_lt (Nat.lt_of_lt_of_le (f12_3.ext E13).lt sz_i1)
    have ne_b4_vl : b4 ≠ vl := Nat.ne_of_lt (Nat.lt_of_lt_of_le (f12_3.ext E13).lt sz_vl)
    have ne_b4_el : b4 ≠ el := Nat.ne_of_lt (Nat.lt_of_lt_of_le (f12_3.ext E13).lt sz_el)
    have ne_b4_m0 : b4 ≠ m0 := Nat.ne_of_lt (Nat.lt_of_lt_of_le (f12_3.ext E13).lt sz_m0)
    have ne_b4_m1 : b4 ≠ m1 := Nat.ne_of_lt (Nat.lt_of_lt_of_le (f12_3.ext E13).lt sz_m1)
    have ne_b7_co : b7 ≠ co := Nat.ne_of_lt (Nat.lt_of_lt_of_le (f12_5.ext E13).lt sz_co)
    have ne_b7_cs : b7 ≠ cs := Nat.ne_of_lt (Nat.lt_of_lt_of_le (f12_5.ext E13).lt sz_cs)
    have ne_b7_bc : b7 ≠ bc := Nat.ne_of_lt (Nat.lt_of_lt_of_le (f12_5.ext E13).lt sz_bc)
    have ne_b7_li : b7 ≠ li := Nat.ne_of_lt (Nat.lt_of_lt_of_le (f12_5.ext E13).lt sz_li)
    have ne_b7_ba : b7 ≠ ba := Nat.ne_of_lt (Nat.lt_of_lt_of_le (f12_5.ext E13).lt sz_ba)
    have ne_b7_iv : b7 ≠ iv := Nat.ne_of_lt (Nat.lt_of_lt_of_le (f12_5.ext E13).lt sz_iv)
    have ne_b7_i0 : b7 ≠ i0 := Nat.ne_of_lt (Nat.lt_of_lt_of_le (f12_5.ext E13).lt sz_i0)
    have ne_b7_i1 : b7 ≠ i1 := Nat.ne_of_lt (Nat.lt_of_lt_of_le (f12_5.ext E13).lt sz_i1)
    have ne_b7_vl : b7 ≠ vl := Nat.ne_of_lt (Nat.lt_of_lt_of_le (f12_5.ext E13).lt sz_vl)
    have ne_b7_el : b7 ≠ el := Nat.ne_of_lt (Nat.lt_of_lt_of_le (f12_5.ext E13).lt sz_el)
    have ne_b7_m0 : b7 ≠ m0 := Nat.ne_of_lt (Nat.lt_of_lt_of_le (f12_5.ext E13).lt sz_m0)
    have ne_b7_m1 : b7 ≠ m1 := Nat.ne_of_lt (Nat.lt_of_lt_of_le (f12_5.ext E13).lt sz_m1)
    have ne_b10_co : b10 ≠ co := Nat.ne_of_lt (Nat.lt_of_lt_of_le (f12_7.ext E13).lt sz_co)
    have ne_b10_cs : b10 ≠ cs := Nat.ne_of_lt (Nat.lt_of_lt_of_le (f12_7.ext E13).lt sz_cs)
    have ne_b10_bc : b10 ≠ bc := Nat.ne_of_lt (Nat.lt_of_lt_of_le (f12_7.ext E13).lt sz_bc)
    have ne_b10_li : b10 ≠ li := Nat.ne_of_lt (Nat.lt_of_lt_of_le (f12_7.ext E13).lt sz_li)
    have ne_b10_ba : b10 ≠ ba := Nat.ne_of_lt (Nat.lt_of_lt_of_le (f12_7.ext E13).lt sz_ba)
    have ne_b10_iv : b10 ≠ iv := Nat.ne_of_lt (Nat.lt_of_lt_of_le (f12_7.ext E13).lt sz_iv)
    have ne_b10_i0 : b10 ≠ i0 := Nat.ne_of_lt (Nat.lt_of_lt_of_le (f12_7.ext E13).lt sz_i0)
    have ne_b10_i1 : b10 ≠ i1 := Nat.ne_of_lt (Nat.lt_of_lt_of_le (f12_7.ext E13).lt sz_i1)
    have ne_b10_vl : b10 ≠ vl := Nat.ne_of_lt (Nat.lt_of_lt_of_le (f12_7.ext E13).lt sz_vl)
    have ne_b10_el : b10 ≠ el := Nat.ne_of_lt (Nat.lt_of_lt_of_le (f12_7.ext E13).lt sz_el)
    have ne_b10_m0 : b10 ≠ m0 := Nat.ne_of_lt (Nat.lt_of_lt_of_le (f12_7.ext E13).lt sz_m0)
    have ne_b10_m1 : b10 ≠ m1 := Nat.ne_of_lt (Nat.lt_of_lt_of_le (f12_7.ext E13).lt sz_m1)
    have ne_b13_co : b13 ≠ co := Nat.ne_of_lt (Nat.lt_of_lt_of_le A13.lt sz_co)
    have ne_b13_cs : b13 ≠ cs := Nat.ne_of_lt (Nat.lt_of_lt_of_le A13.lt sz_cs)
    have ne_b13_bc : b13 ≠ bc := Nat.ne_of_lt (Nat.lt_of_lt_of_le A13.lt sz_bc)
    have ne_b13_li : b13 ≠ li := Nat.ne_of_lt (Nat.lt_of_lt_of_le A13.lt sz_li)
    have ne_b13_ba : b13 ≠ ba := Nat.ne_of_lt (Nat.lt_of_lt_of_le A13.lt sz_ba)
    have ne_b13_iv : b13 ≠ iv := Nat.ne_of_lt (Nat.lt_of_lt_of_le A13.lt sz_iv)
    have ne_b13_i0 : b13 ≠ i0 := Nat.ne_of_lt (Nat.lt_of_lt_of_le A13.lt sz_i0)
    have ne_b13_i1 : b13 ≠ i1 := Nat.ne_of_lt (Nat.lt_of_lt_of_le A13.lt sz_i1)
    have ne_b13_vl : b13 ≠ vl := Nat.ne_of_lt (Nat.lt_of_lt_of_le A13.lt sz_vl)
    have ne_b13_el : b13 ≠ el := Nat.ne_of_lt (Nat.lt_of_lt_of_le A13.lt sz_el)
    have ne_b13_m0 : b13 ≠ m0 := Nat.ne_of_lt (Nat.lt_of_lt_of_le A13.lt sz_m0)
    have ne_b13_m1 : b13 ≠ m1 := Nat.ne_of_lt (Nat.lt_of_lt_of_le A13.lt sz_m1)
    have f14_0 : Arv Z T14.heap pb kpb .int (2 : Int32) [(.int sb0), (.int sb1)] (.int 0) := (f12_0.ext E13).keep K14q (ninS ne_pb_b13 nin0)
    have f14_1 : Exa Z T14.heap b1 "[D" := (f12_1.ext E13).keep K14q
    have f14_2 : Arv Z T14.heap b1 k1 .double (2 : Int32) [(.double dl), (.double dm)] (.double 0) := (f12_2.ext E13).keep K14q (ninS ne_b1_b13 nin0)
    have f14_3 : Exa Z T14.heap b4 "[D" := (f12_3.ext E13).keep K14q
    have f14_4 : Arv Z T14.heap b4 k4 .double (2 : Int32) [(.double ux), (.double FP.dconst0)] (.double 0) := (f12_4.ext E13).keep K14q (ninS ne_b4_b13 nin0)
    have f14_5 : Exa Z T14.heap b7 "[D" := (f12_5.ext E13).keep K14q
    have f14_6 : Arv Z T14.heap b7 k7 .double (2 : Int32) [(.double FP.dconst0), (.double uy)] (.double 0) := (f12_6.ext E13).keep K14q (ninS ne_b7_b13 nin0)
    have f14_7 : Exa Z T14.heap b10 "[D" := (f12_7.ext E13).keep K14q
    have f14_8 : Arv Z T14.heap b10 k10 .double (2 : Int32) [(.double FP.dconst1), (.double FP.dconst1)] (.double 0) := (V12.ext E13).keep K14q (ninS ne_b10_b13 nin0)
    have f14_9 : Exa Z T14.heap b13 "com/example/composure/composure/select/Simplex" := A13.keep K14q
    have Z14 : n0 ≤ T14.heap.size := Nat.le_trans Z13 K14q.1
    refine own_go (fun _ k => st14.trans k) ?_
    refine own_go (A := oW p e below T14 (oF_law m 280 (oi p0) (oi p1) (oi p2) (oi p3) (oi p4) (oi p5) (oj c0) .second (oj c1) .second (oj c2) .second (oj l0) .second (oj dd) .second (oj mm) .second (oi (p5 &&& (3 : Int32))) (oi (((p5.toUInt32 >>> ((2 : Int32) &&& 31).toUInt32).toInt32) &&& (3 : Int32))) (oi ((((p5.toUInt32 >>> ((4 : Int32) &&& 31).toUInt32).toInt32) &&& (268435455 : Int32)) % (3 : Int32))) (oj s0) .second (oj s1) .second (oR pb) (oj xp) .second (oR b1) (oR b4) (oR b7) (oR b10) (oR b13) .unset .unset .unset [(.double wk0), (.ref b4), (.ref b13)])) (fun t k => by
      refine XS.astore X14.here hx rfl (hb hby at_271) rfl rfl (l' := #[(oi p0), (oi p1), (oi p2), (oi p3), (oi p4), (oi p5), (oj c0), .second, (oj c1), .second, (oj c2), .second, (oj l0), .second, (oj dd), .second, (oj mm), .second, (oi (p5 &&& (3 : Int32))), (oi (((p5.toUInt32 >>> ((2 : Int32) &&& 31).toUInt32).toInt32) &&& (3 : Int32))), (oi ((((p5.toUInt32 >>> ((4 : Int32) &&& 31).toUInt32).toInt32) &&& (268435455 : Int32)) % (3 : Int32))), (oj s0), .second, (oj s1), .second, (oR pb), (oj xp), .second, (oR b1), (oR b4), (oR b7), (oR b10), (oR b13), .unset, .unset, .unset]) rfl ?_
      refine XS.aload X14.here hx rfl (hb hby at_273) rfl rfl ?_
      show oW p e below T14 (oF_law m 275 (oi p0) (oi p1) (oi p2) (oi p3) (oi p4) (oi p5) (oj c0) .second (oj c1) .second (oj c2) .second (oj l0) .second (oj dd) .second (oj mm) .second (oi (p5 &&& (3 : Int32))) (oi (((p5.toUInt32 >>> ((2 : Int32) &&& 31).toUInt32).toInt32) &&& (3 : Int32))) (oi ((((p5.toUInt32 >>> ((4 : Int32) &&& 31).toUInt32).toInt32) &&& (268435455 : Int32)) % (3 : Int32))) (oj s0) .second (oj s1) .second (oR pb) (oj xp) .second (oR b1) (oR b4) (oR b7) (oR b10) (oR b13) .unset .unset .unset [(.ref b13)]) _
      refine XS.aload X14.here hx rfl (hb hby at_275) rfl rfl ?_
      refine XS.lload X14.here hx rfl (hb hby at_277) rfl ?_
      refine XS.l2dS X14.here hx rfl (hb hby at_279) rfl h_wk0 ?_
      exact k) ?_
    obtain ⟨cq15, kq15, q15a, q15b, q15c⟩ := isOf hZ rfl f14_9
    obtain ⟨_, _, ⟨T15, L15, k15, n15⟩, -, X15, ⟨Lc15, hQ15, l15, y15, z15⟩, st15⟩ := X14.virtualBack hx (y := (⟨"com/example/composure/composure/select/Simplex", "add", "([DD)I"⟩ : MethodName)) (z := (⟨"com/example/composure/composure/select/Simplex", "add", "([DD)I"⟩ : MethodName)) hown (mvT hZ ow54) (mvT hZ ow55) (notFace_of_selects (args := #[]) (mvT hZ ow57)) (mvT hZ ow57) (mvT hZ ow56) (by decide) (backOf (W := 0) (own_rm_add0 l Z a0 hw [] b13 b4 wk0 co cs bc li ba iv vl el kco kcs k4 ux FP.dconst0 T14.heap n0 Z14 (own_ndS (ninS ne_b13_co (ninS ne_b13_cs (ninS (Ne.symm ne_b4_b13) nin0))) (own_ndS (ninS (own_nd nd14 (i := 0) (j := 1) rfl rfl (by decide)) (ninS (Ne.symm ne_b4_co) nin0)) (own_ndS (ninS (Ne.symm ne_b4_cs) nin0) (own_ndS nin0 List.nodup_nil)))) g_b13 g_co g_cs Oco f14_9 p14_0 p14_1 p14_2 p14_3 p14_4 p14_5 p14_6 p14_7 p14_8 p14_9 p14_10 p14_11 f14_4 f14_3) hZ ow58 ow7 (by decide) (by decide)) q15a q15c (g := (oF_law m 280 (oi p0) (oi p1) (oi p2) (oi p3) (oi p4) (oi p5) (oj c0) .second (oj c1) .second (oj c2) .second (oj l0) .second (oj dd) .second (oj mm) .second (oi (p5 &&& (3 : Int32))) (oi (((p5.toUInt32 >>> ((2 : Int32) &&& 31).toUInt32).toInt32) &&& (3 : Int32))) (oi ((((p5.toUInt32 >>> ((4 : Int32) &&& 31).toUInt32).toInt32) &&& (268435455 : Int32)) % (3 : Int32))) (oj s0) .second (oj s1) .second (oR pb) (oj xp) .second (oR b1) (oR b4) (oR b7) (oR b10) (oR b13) .unset .unset .unset [(.double wk0), (.ref b4), (.ref b13)])) rfl (by rw [hml]; rfl) (Steps.refl _) (argsL := [(.ref b4), (.double wk0)]) (rest := []) (lenOf own_pd_285bDD29I rfl) rfl (by show 2 * 0 + _ ≤ _; exact Nat.le_of_eq rfl) (hb hby at_280) (fun _ _ => ⟨rfl, rfl, (by decide : 21 + 1 ≤ _), (by decide : 113 + 2 ≤ _)⟩)
    dsimp only [Pt.U, Pt.locs, Pt.cells, Pt.slots] at X15 l15 y15 z15 st15 hQ15
    subst l15 y15 z15
    obtain ⟨ca, rfl, N15q, K15q, sz_ca, p15_0, p15_1, p15_2, p15_3, p15_4, p15_5, p15_6, p15_7, p15_8, p15_9, p15_10, p15_11, p15_12⟩ := hQ15
    have N15 := Fr.app N14 N15q
    have g_ca : n0 ≤ ca := Nat.le_trans Z14 sz_ca
    have ne_pb_ca : pb ≠ ca := Nat.ne_of_lt (Nat.lt_of_lt_of_le f14_0.lt sz_ca)
    have ne_b1_ca : b1 ≠ ca := Nat.ne_of_lt (Nat.lt_of_lt_of_le f14_1.lt sz_ca)
    have ne_b4_ca : b4 ≠ ca := Nat.ne_of_lt (Nat.lt_of_lt_of_le f14_3.lt sz_ca)
    have ne_b7_ca : b7 ≠ ca := Nat.ne_of_lt (Nat.lt_of_lt_of_le f14_5.lt sz_ca)
    have ne_b10_ca : b10 ≠ ca := Nat.ne_of_lt (Nat.lt_of_lt_of_le f14_7.lt sz_ca)
    have ne_b13_ca : b13 ≠ ca := Nat.ne_of_lt (Nat.lt_of_lt_of_le f14_9.lt sz_ca)
    have ne_co_ca : co ≠ ca := Nat.ne_of_lt (Nat.lt_of_lt_of_le p14_10.lt sz_ca)
    have ne_cs_ca : cs ≠ ca := Nat.ne_of_lt (Nat.lt_of_lt_of_le p14_11.lt sz_ca)
    have ne_bc_ca : bc ≠ ca := Nat.ne_of_lt (Nat.lt_of_lt_of_le p14_12.lt sz_ca)
    have ne_li_ca : li ≠ ca := Nat.ne_of_lt (Nat.lt_of_lt_of_le p14_13.lt sz_ca)
    have ne_ba_ca : ba ≠ ca := Nat.ne_of_lt (Nat.lt_of_lt_of_le p14_14.lt sz_ca)
    have ne_iv_ca : iv ≠ ca := Nat.ne_of_lt (Nat.lt_of_lt_of_le p14_15.lt sz_ca)
    have ne_i0_ca : i0 ≠ ca := Nat.ne_of_lt (Nat.lt_of_lt_of_le p14_16.lt sz_ca)
    have ne_i1_ca : i1 ≠ ca := Nat.ne_of_lt (Nat.lt_of_lt_of_le p14_17.lt sz_ca)
    have ne_vl_ca : vl ≠ ca := Nat.ne_of_lt (Nat.lt_of_lt_of_le p14_18.lt sz_ca)
    have ne_el_ca : el ≠ ca := Nat.ne_of_lt (Nat.lt_of_lt_of_le p14_19.lt sz_ca)
    have ne_m0_ca : m0 ≠ ca := Nat.ne_of_lt (Nat.lt_of_lt_of_le p14_20.lt sz_ca)
    have ne_m1_ca : m1 ≠ ca := Nat.ne_of_lt (Nat.lt_of_lt_of_le p14_21.lt sz_ca)
    have f15_0 : Arv Z T15.heap pb kpb .int (2 : Int32) [(.int sb0), (.int sb1)] (.int 0) := f14_0.keep K15q (ninS ne_pb_b13 (ninS ne_pb_co (ninS ne_pb_cs nin0)))
    have f15_1 : Exa Z T15.heap b1 "[D" := f14_1.keep K15q
    have f15_2 : Arv Z T15.heap b1 k1 .double (2 : Int32) [(.double dl), (.double dm)] (.double 0) := f14_2.keep K15q (ninS ne_b1_b13 (ninS ne_b1_co (ninS ne_b1_cs nin0)))
    have f15_3 : Exa Z T15.heap b7 "[D" := f14_5.keep K15q
    have f15_4 : Arv Z T15.heap b7 k7 .double (2 : Int32) [(.double FP.dconst0), (.double uy)] (.double 0) := f14_6.keep K15q (ninS ne_b7_b13 (ninS ne_b7_co (ninS ne_b7_cs nin0)))
    have f15_5 : Exa Z T15.heap b10 "[D" := f14_7.keep K15q
    have f15_6 : Arv Z T15.heap b10 k10 .double (2 : Int32) [(.double FP.dconst1), (.double FP.dconst1)] (.double 0) := f14_8.keep K15q (ninS ne_b10_b13 (ninS ne_b10_co (ninS ne_b10_cs nin0)))
    have f15_7 : Exa Z T15.heap b13 "com/example/composure/composure/select/Simplex" := f14_9.keep K15q
    have f15_20 : Arv Z T15.heap bc kbc .boolean (16 : Int32) [(.int 0), (.int 0), (.int 0), (.int 0), (.int 0), (.int 0), (.int 0), (.int 0), (.int 0), (.int 0), (.int 0), (.int 0), (.int 0), (.int 0), (.int 0), (.int 0)] (.int 0) := p14_12.keep K15q (ninS (Ne.symm ne_b13_bc) (ninS (own_nd nd14 (i := 2) (j := 0) rfl rfl (by decide)) (ninS (own_nd nd14 (i := 2) (j := 1) rfl rfl (by decide)) nin0)))
    have f15_21 : Arv Z T15.heap li kli .double (2 : Int32) [(.double dl), (.double dm)] (.double 0) := p14_13.keep K15q (ninS (Ne.symm ne_b13_li) (ninS (own_nd nd14 (i := 3) (j := 0) rfl rfl (by decide)) (ninS (own_nd nd14 (i := 3) (j := 1) rfl rfl (by decide)) nin0)))
    have f15_22 : Arv Z T15.heap ba kba .int (2 : Int32) [(.int (-1)), (.int (-1))] (.int 0) := p14_14.keep K15q (ninS (Ne.symm ne_b13_ba) (ninS (own_nd nd14 (i := 4) (j := 0) rfl rfl (by decide)) (ninS (own_nd nd14 (i := 4) (j := 1) rfl rfl (by decide)) nin0)))
    have f15_23 : Arv Z T15.heap iv kiv (.array .double) (2 : Int32) [(.ref i0), (.ref i1)] .null := p14_15.keep K15q (ninS (Ne.symm ne_b13_iv) (ninS (own_nd nd14 (i := 5) (j := 0) rfl rfl (by decide)) (ninS (own_nd nd14 (i := 5) (j := 1) rfl rfl (by decide)) nin0)))
    have f15_24 : Arv Z T15.heap i0 ki0 .double (2 : Int32) [(.double 0), (.double 0)] (.double 0) := p14_16.keep K15q (ninS (Ne.symm ne_b13_i0) (ninS (own_nd nd14 (i := 6) (j := 0) rfl rfl (by decide)) (ninS (own_nd nd14 (i := 6) (j := 1) rfl rfl (by decide)) nin0)))
    have f15_25 : Arv Z T15.heap i1 ki1 .double (2 : Int32) [(.double 0), (.double 0)] (.double 0) := p14_17.keep K15q (ninS (Ne.symm ne_b13_i1) (ninS (own_nd nd14 (i := 7) (j := 0) rfl rfl (by decide)) (ninS (own_nd nd14 (i := 7) (j := 1) rfl rfl (by decide)) nin0)))
    have f15_26 : Arv Z T15.heap vl kvl .double (2 : Int32) [(.double 0), (.double 0)] (.double 0) := p14_18.keep K15q (ninS (Ne.symm ne_b13_vl) (ninS (own_nd nd14 (i := 8) (j := 0) rfl rfl (by decide)) (ninS (own_nd nd14 (i := 8) (j := 1) rfl rfl (by decide)) nin0)))
    have f15_27 : Arv Z T15.heap el kel (.array .double) (2 : Int32) [(.ref m0), (.ref m1)] .null := p14_19.keep K15q (ninS (Ne.symm ne_b13_el) (ninS (own_nd nd14 (i := 9) (j := 0) rfl rfl (by decide)) (ninS (own_nd nd14 (i := 9) (j := 1) rfl rfl (by decide)) nin0)))
    have f15_28 : Arv Z T15.heap m0 km0 .double (4 : Int32) [(.double 0), (.double 0), (.double 0), (.double 0)] (.double 0) := p14_20.keep K15q (ninS (Ne.symm ne_b13_m0) (ninS (own_nd nd14 (i := 10) (j := 0) rfl rfl (by decide)) (ninS (own_nd nd14 (i := 10) (j := 1) rfl rfl (by decide)) nin0)))
    have f15_29 : Arv Z T15.heap m1 km1 .double (4 : Int32) [(.double 0), (.double 0), (.double 0), (.double 0)] (.double 0) := p14_21.keep K15q (ninS (Ne.symm ne_b13_m1) (ninS (own_nd nd14 (i := 11) (j := 0) rfl rfl (by decide)) (ninS (own_nd nd14 (i := 11) (j := 1) rfl rfl (by decide)) nin0)))
    have f15_30 : Exa Z T15.heap m0 "[D" := p14_22.keep K15q
    have f15_31 : Exa Z T15.heap m1 "[D" := p14_23.keep K15q
    have Z15 : n0 ≤ T15.heap.size := Nat.le_trans Z14 K15q.1
    refine own_go (fun _ k => st15.trans k) ?_
    refine own_go (A := oW p e below T15 (oF_law m 291 (oi p0) (oi p1) (oi p2) (oi p3) (oi p4) (oi p5) (oj c0) .second (oj c1) .second (oj c2) .second (oj l0) .second (oj dd) .second (oj mm) .second (oi (p5 &&& (3 : Int32))) (oi (((p5.toUInt32 >>> ((2 : Int32) &&& 31).toUInt32).toInt32) &&& (3 : Int32))) (oi ((((p5.toUInt32 >>> ((4 : Int32) &&& 31).toUInt32).toInt32) &&& (268435455 : Int32)) % (3 : Int32))) (oj s0) .second (oj s1) .second (oR pb) (oj xp) .second (oR b1) (oR b4) (oR b7) (oR b10) (oR b13) .unset .unset .unset [(.double wk1), (.ref b7), (.ref b13)])) (fun t k => by
      refine XS.pop X15.here hx rfl (hb hby at_283) rfl rfl ?_
      refine XS.aload X15.here hx rfl (hb hby at_284) rfl rfl ?_
      refine XS.aload X15.here hx rfl (hb hby at_286) rfl rfl ?_
      refine XS.lload X15.here hx rfl (hb hby at_288) rfl ?_
      refine XS.l2dS X15.here hx rfl (hb hby at_290) rfl h_wk1 ?_
      exact k) ?_
    obtain ⟨cq16, kq16, q16a, q16b, q16c⟩ := isOf hZ rfl f15_7
    obtain ⟨_, _, ⟨T16, L16, k16, n16⟩, -, X16, ⟨Lc16, hQ16, l16, y16, z16⟩, st16⟩ := X15.virtualBack hx (y := (⟨"com/example/composure/composure/select/Simplex", "add", "([DD)I"⟩ : MethodName)) (z := (⟨"com/example/composure/composure/select/Simplex", "add", "([DD)I"⟩ : MethodName)) hown (mvT hZ ow54) (mvT hZ ow55) (notFace_of_selects (args := #[]) (mvT hZ ow57)) (mvT hZ ow57) (mvT hZ ow56) (by decide) (backOf (W := 0) (own_rm_add1 l Z a0 hw [] b13 b7 wk1 co cs bc li ba iv vl el ca kco kcs k7 FP.dconst0 uy wk0 T15.heap n0 Z15 (own_ndS (ninS ne_b13_co (ninS ne_b13_cs (ninS (Ne.symm ne_b7_b13) nin0))) (own_ndS (ninS (own_nd nd14 (i := 0) (j := 1) rfl rfl (by decide)) (ninS (Ne.symm ne_b7_co) nin0)) (own_ndS (ninS (Ne.symm ne_b7_cs) nin0) (own_ndS nin0 List.nodup_nil)))) g_b13 g_co g_cs Oco f15_7 p15_0 p15_1 p15_2 p15_3 p15_4 p15_5 p15_6 p15_7 p15_8 p15_9 p15_10 p15_11 f15_4 f15_3) hZ ow58 ow7 (by decide) (by decide)) q16a q16c (g := (oF_law m 291 (oi p0) (oi p1) (oi p2) (oi p3) (oi p4) (oi p5) (oj c0) .second (oj c1) .second (oj c2) .second (oj l0) .second (oj dd) .second (oj mm) .second (oi (p5 &&& (3 : Int32))) (oi (((p5.toUInt32 >>> ((2 : Int32) &&& 31).toUInt32).toInt32) &&& (3 : Int32))) (oi ((((p5.toUInt32 >>> ((4 : Int32) &&& 31).toUInt32).toInt32) &&& (268435455 : Int32)) % (3 : Int32))) (oj s0) .second (oj s1) .second (oR pb) (oj xp) .second (oR b1) (oR b4) (oR b7) (oR b10) (oR b13) .unset .unset .unset [(.double wk1), (.ref b7), (.ref b13)])) rfl (by rw [hml]; rfl) (Steps.refl _) (argsL := [(.ref b7), (.double wk1)]) (rest := []) (lenOf own_pd_285bDD29I rfl) rfl (by show 2 * 0 + _ ≤ _; exact Nat.le_of_eq rfl) (hb hby at_291) (fun _ _ => ⟨rfl, rfl, (by decide : 22 + 1 ≤ _), (by decide : 115 + 2 ≤ _)⟩)
    dsimp only [Pt.U, Pt.locs, Pt.cells, Pt.slots] at X16 l16 y16 z16 st16 hQ16
    subst l16 y16 z16
    obtain ⟨cb, rfl, N16q, K16q, sz_cb, p16_0, p16_1, p16_2, p16_3, p16_4, p16_5, p16_6, p16_7, p16_8, p16_9, p16_10, p16_11, p16_12⟩ := hQ16
    have N16 := Fr.app N15 N16q
    have g_cb : n0 ≤ cb := Nat.le_trans Z15 sz_cb
    have ne_pb_cb : pb ≠ cb := Nat.ne_of_lt (Nat.lt_of_lt_of_le f15_0.lt sz_cb)
    have ne_b1_cb : b1 ≠ cb := Nat.ne_of_lt (Nat.lt_of_lt_of_le f15_1.lt sz_cb)
    have ne_b7_cb : b7 ≠ cb := Nat.ne_of_lt (Nat.lt_of_lt_of_le f15_3.lt sz_cb)
    have ne_b10_cb : b10 ≠ cb := Nat.ne_of_lt (Nat.lt_of_lt_of_le f15_5.lt sz_cb)
    have ne_b13_cb : b13 ≠ cb := Nat.ne_of_lt (Nat.lt_of_lt_of_le f15_7.lt sz_cb)
    have ne_co_cb : co ≠ cb := Nat.ne_of_lt (Nat.lt_of_lt_of_le p15_10.lt sz_cb)
    have ne_cs_cb : cs ≠ cb := Nat.ne_of_lt (Nat.lt_of_lt_of_le p15_11.lt sz_cb)
    have ne_bc_cb : bc ≠ cb := Nat.ne_of_lt (Nat.lt_of_lt_of_le f15_20.lt sz_cb)
    have ne_li_cb : li ≠ cb := Nat.ne_of_lt (Nat.lt_of_lt_of_le f15_21.lt sz_cb)
    have ne_ba_cb : ba ≠ cb := Nat.ne_of_lt (Nat.lt_of_lt_of_le f15_22.lt sz_cb)
    have ne_iv_cb : iv ≠ cb := Nat.ne_of_lt (Nat.lt_of_lt_of_le f15_23.lt sz_cb)
    have ne_i0_cb : i0 ≠ cb := Nat.ne_of_lt (Nat.lt_of_lt_of_le f15_24.lt sz_cb)
    have ne_i1_cb : i1 ≠ cb := Nat.ne_of_lt (Nat.lt_of_lt_of_le f15_25.lt sz_cb)
    have ne_vl_cb : vl ≠ cb := Nat.ne_of_lt (Nat.lt_of_lt_of_le f15_26.lt sz_cb)
    have ne_el_cb : el ≠ cb := Nat.ne_of_lt (Nat.lt_of_lt_of_le f15_27.lt sz_cb)
    have ne_m0_cb : m0 ≠ cb := Nat.ne_of_lt (Nat.lt_of_lt_of_le f15_28.lt sz_cb)
    have ne_m1_cb : m1 ≠ cb := Nat.ne_of_lt (Nat.lt_of_lt_of_le f15_29.lt sz_cb)
    have ne_ca_cb : ca ≠ cb := Nat.ne_of_lt (Nat.lt_of_lt_of_le p15_12.lt sz_cb)
    have f16_0 : Arv Z T16.heap pb kpb .int (2 : Int32) [(.int sb0), (.int sb1)] (.int 0) := f15_0.keep K16q (ninS ne_pb_b13 (ninS ne_pb_co (ninS ne_pb_cs nin0)))
    have f16_1 : Exa Z T16.heap b1 "[D" := f15_1.keep K16q
    have f16_2 : Arv Z T16.heap b1 k1 .double (2 : Int32) [(.double dl), (.double dm)] (.double 0) := f15_2.keep K16q (ninS ne_b1_b13 (ninS ne_b1_co (ninS ne_b1_cs nin0)))
    have f16_3 : Exa Z T16.heap b10 "[D" := f15_5.keep K16q
    have f16_4 : Arv Z T16.heap b10 k10 .double (2 : Int32) [(.double FP.dconst1), (.double FP.dconst1)] (.double 0) := f15_6.keep K16q (ninS ne_b10_b13 (ninS ne_b10_co (ninS ne_b10_cs nin0)))
    have f16_5 : Exa Z T16.heap b13 "com/example/composure/composure/select/Simplex" := f15_7.keep K16q
    have f16_6 : Arv Z T16.heap bc kbc .boolean (16 : Int32) [(.int 0), (.int 0), (.int 0), (.int 0), (.int 0), (.int 0), (.int 0), (.int 0), (.int 0), (.int 0), (.int 0), (.int 0), (.int 0), (.int 0), (.int 0), (.int 0)] (.int 0) := f15_20.keep K16q (ninS (Ne.symm ne_b13_bc) (ninS (own_nd nd14 (i := 2) (j := 0) rfl rfl (by decide)) (ninS (own_nd nd14 (i := 2) (j := 1) rfl rfl (by decide)) nin0)))
    have f16_7 : Arv Z T16.heap li kli .double (2 : Int32) [(.double dl), (.double dm)] (.double 0) := f15_21.keep K16q (ninS (Ne.symm ne_b13_li) (ninS (own_nd nd14 (i := 3) (j := 0) rfl rfl (by decide)) (ninS (own_nd nd14 (i := 3) (j := 1) rfl rfl (by decide)) nin0)))
    have f16_8 : Arv Z T16.heap ba kba .int (2 : Int32) [(.int (-1)), (.int (-1))] (.int 0) := f15_22.keep K16q (ninS (Ne.symm ne_b13_ba) (ninS (own_nd nd14 (i := 4) (j := 0) rfl rfl (by decide)) (ninS (own_nd nd14 (i := 4) (j := 1) rfl rfl (by decide)) nin0)))
    have f16_9 : Arv Z T16.heap iv kiv (.array .double) (2 : Int32) [(.ref i0), (.ref i1)] .null := f15_23.keep K16q (ninS (Ne.symm ne_b13_iv) (ninS (own_nd nd14 (i := 5) (j := 0) rfl rfl (by decide)) (ninS (own_nd nd14 (i := 5) (j := 1) rfl rfl (by decide)) nin0)))
    have f16_10 : Arv Z T16.heap i0 ki0 .double (2 : Int32) [(.double 0), (.double 0)] (.double 0) := f15_24.keep K16q (ninS (Ne.symm ne_b13_i0) (ninS (own_nd nd14 (i := 6) (j := 0) rfl rfl (by decide)) (ninS (own_nd nd14 (i := 6) (j := 1) rfl rfl (by decide)) nin0)))
    have f16_11 : Arv Z T16.heap i1 ki1 .double (2 : Int32) [(.double 0), (.double 0)] (.double 0) := f15_25.keep K16q (ninS (Ne.symm ne_b13_i1) (ninS (own_nd nd14 (i := 7) (j := 0) rfl rfl (by decide)) (ninS (own_nd nd14 (i := 7) (j := 1) rfl rfl (by decide)) nin0)))
    have f16_12 : Arv Z T16.heap vl kvl .double (2 : Int32) [(.double 0), (.double 0)] (.double 0) := f15_26.keep K16q (ninS (Ne.symm ne_b13_vl) (ninS (own_nd nd14 (i := 8) (j := 0) rfl rfl (by decide)) (ninS (own_nd nd14 (i := 8) (j := 1) rfl rfl (by decide)) nin0)))
    have f16_13 : Arv Z T16.heap el kel (.array .double) (2 : Int32) [(.ref m0), (.ref m1)] .null := f15_27.keep K16q (ninS (Ne.symm ne_b13_el) (ninS (own_nd nd14 (i := 9) (j := 0) rfl rfl (by decide)) (ninS (own_nd nd14 (i := 9) (j := 1) rfl rfl (by decide)) nin0)))
    have f16_14 : Arv Z T16.heap m0 km0 .double (4 : Int32) [(.double 0), (.double 0), (.double 0), (.double 0)] (.double 0) := f15_28.keep K16q (ninS (Ne.symm ne_b13_m0) (ninS (own_nd nd14 (i := 10) (j := 0) rfl rfl (by decide)) (ninS (own_nd nd14 (i := 10) (j := 1) rfl rfl (by decide)) nin0)))
    have f16_15 : Arv Z T16.heap m1 km1 .double (4 : Int32) [(.double 0), (.double 0), (.double 0), (.double 0)] (.double 0) := f15_29.keep K16q (ninS (Ne.symm ne_b13_m1) (ninS (own_nd nd14 (i := 11) (j := 0) rfl rfl (by decide)) (ninS (own_nd nd14 (i := 11) (j := 1) rfl rfl (by decide)) nin0)))
    have f16_16 : Exa Z T16.heap m0 "[D" := f15_30.keep K16q
    have f16_17 : Exa Z T16.heap m1 "[D" := f15_31.keep K16q
    have f16_30 : Arv Z T16.heap ca k4 .double (2 : Int32) [(.double ux), (.double FP.dconst0)] (.double 0) := p15_12.keep K16q (ninS (Ne.symm ne_b13_ca) (ninS (Ne.symm ne_co_ca) (ninS (Ne.symm ne_cs_ca) nin0)))
    have Z16 : n0 ≤ T16.heap.size := Nat.le_trans Z15 K16q.1
    refine own_go (fun _ k => st16.trans k) ?_
    refine own_go (A := oW p e below T16 (oF_law m 302 (oi p0) (oi p1) (oi p2) (oi p3) (oi p4) (oi p5) (oj c0) .second (oj c1) .second (oj c2) .second (oj l0) .second (oj dd) .second (oj mm) .second (oi (p5 &&& (3 : Int32))) (oi (((p5.toUInt32 >>> ((2 : Int32) &&& 31).toUInt32).toInt32) &&& (3 : Int32))) (oi ((((p5.toUInt32 >>> ((4 : Int32) &&& 31).toUInt32).toInt32) &&& (268435455 : Int32)) % (3 : Int32))) (oj s0) .second (oj s1) .second (oR pb) (oj xp) .second (oR b1) (oR b4) (oR b7) (oR b10) (oR b13) .unset .unset .unset [(.double wk2), (.ref b10), (.ref b13)])) (fun t k => by
      refine XS.pop X16.here hx rfl (hb hby at_294) rfl rfl ?_
      show oW p e below T16 (oF_law m 295 (oi p0) (oi p1) (oi p2) (oi p3) (oi p4) (oi p5) (oj c0) .second (oj c1) .second (oj c2) .second (oj l0) .second (oj dd) .second (oj mm) .second (oi (p5 &&& (3 : Int32))) (oi (((p5.toUInt32 >>> ((2 : Int32) &&& 31).toUInt32).toInt32) &&& (3 : Int32))) (oi ((((p5.toUInt32 >>> ((4 : Int32) &&& 31).toUInt32).toInt32) &&& (268435455 : Int32)) % (3 : Int32))) (oj s0) .second (oj s1) .second (oR pb) (oj xp) .second (oR b1) (oR b4) (oR b7) (oR b10) (oR b13) .unset .unset .unset []) _
      refine XS.aload X16.here hx rfl (hb hby at_295) rfl rfl ?_
      refine XS.aload X16.here hx rfl (hb hby at_297) rfl rfl ?_
      refine XS.lload X16.here hx rfl (hb hby at_299) rfl ?_
      refine XS.l2dS X16.here hx rfl (hb hby at_301) rfl h_wk2 ?_
      exact k) ?_
    obtain ⟨cq17, kq17, q17a, q17b, q17c⟩ := isOf hZ rfl f16_5
    obtain ⟨_, _, ⟨T17, L17, k17, n17⟩, -, X17, ⟨Lc17, hQ17, l17, y17, z17⟩, st17⟩ := X16.virtualBack hx (y := (⟨"com/example/composure/composure/select/Simplex", "add", "([DD)I"⟩ : MethodName)) (z := (⟨"com/example/composure/composure/select/Simplex", "add", "([DD)I"⟩ : MethodName)) hown (mvT hZ ow54) (mvT hZ ow55) (notFace_of_selects (args := #[]) (mvT hZ ow57)) (mvT hZ ow57) (mvT hZ ow56) (by decide) (backOf (W := 0) (own_rm_add2 l Z a0 hw [] b13 b10 wk2 co cs bc li ba iv vl el ca cb kco kcs k10 FP.dconst1 FP.dconst1 wk0 wk1 T16.heap n0 Z16 (own_ndS (ninS ne_b13_co (ninS ne_b13_cs (ninS (Ne.symm ne_b10_b13) nin0))) (own_ndS (ninS (own_nd nd14 (i := 0) (j := 1) rfl rfl (by decide)) (ninS (Ne.symm ne_b10_co) nin0)) (own_ndS (ninS (Ne.symm ne_b10_cs) nin0) (own_ndS nin0 List.nodup_nil)))) g_b13 g_co g_cs Oco f16_5 p16_0 p16_1 p16_2 p16_3 p16_4 p16_5 p16_6 p16_7 p16_8 p16_9 p16_10 p16_11 f16_4 f16_3) hZ ow58 ow7 (by decide) (by decide)) q17a q17c (g := (oF_law m 302 (oi p0) (oi p1) (oi p2) (oi p3) (oi p4) (oi p5) (oj c0) .second (oj c1) .second (oj c2) .second (oj l0) .second (oj dd) .second (oj mm) .second (oi (p5 &&& (3 : Int32))) (oi (((p5.toUInt32 >>> ((2 : Int32) &&& 31).toUInt32).toInt32) &&& (3 : Int32))) (oi ((((p5.toUInt32 >>> ((4 : Int32) &&& 31).toUInt32).toInt32) &&& (268435455 : Int32)) % (3 : Int32))) (oj s0) .second (oj s1) .second (oR pb) (oj xp) .second (oR b1) (oR b4) (oR b7) (oR b10) (oR b13) .unset .unset .unset [(.double wk2), (.ref b10), (.ref b13)])) rfl (by rw [hml]; rfl) (Steps.refl _) (argsL := [(.ref b10), (.double wk2)]) (rest := []) (lenOf own_pd_285bDD29I rfl) rfl (by show 2 * 0 + _ ≤ _; exact Nat.le_of_eq rfl) (hb hby at_302) (fun _ _ => ⟨rfl, rfl, (by decide : 23 + 1 ≤ _), (by decide : 117 + 2 ≤ _)⟩)
    dsimp only [Pt.U, Pt.locs, Pt.cells, Pt.slots] at X17 l17 y17 z17 st17 hQ17
    subst l17 y17 z17
    obtain ⟨cc, rfl, N17q, K17q, sz_cc, p17_0, p17_1, p17_2, p17_3, p17_4, p17_5, p17_6, p17_7, p17_8, p17_9, p17_10, p17_11, p17_12⟩ := hQ17
    have N17 := Fr.app N16 N17q
    have g_cc : n0 ≤ cc := Nat.le_trans Z16 sz_cc
    have ne_pb_cc : pb ≠ cc := Nat.ne_of_lt (Nat.lt_of_lt_of_le f16_0.lt sz_cc)
    have ne_b1_cc : b1 ≠ cc := Nat.ne_of_lt (Nat.lt_of_lt_of_le f16_1.lt sz_cc)
    have ne_b10_cc : b10 ≠ cc := Nat.ne_of_lt (Nat.lt_of_lt_of_le f16_3.lt sz_cc)
    have ne_b13_cc : b13 ≠ cc := Nat.ne_of_lt (Nat.lt_of_lt_of_le f16_5.lt sz_cc)
    have ne_co_cc : co ≠ cc := Nat.ne_of_lt (Nat.lt_of_lt_of_le p16_10.lt sz_cc)
    have ne_cs_cc : cs ≠ cc := Nat.ne_of_lt (Nat.lt_of_lt_of_le p16_11.lt sz_cc)
    have ne_bc_cc : bc ≠ cc := Nat.ne_of_lt (Nat.lt_of_lt_of_le f16_6.lt sz_cc)
    have ne_li_cc : li ≠ cc := Nat.ne_of_lt (Nat.lt_of_lt_of_le f16_7.lt sz_cc)
    have ne_ba_cc : ba ≠ cc := Nat.ne_of_lt (Nat.lt_of_lt_of_le f16_8.lt sz_cc)
    have ne_iv_cc : iv ≠ cc := Nat.ne_of_lt (Nat.lt_of_lt_of_le f16_9.lt sz_cc)
    have ne_i0_cc : i0 ≠ cc := Nat.ne_of_lt (Nat.lt_of_lt_of_le f16_10.lt sz_cc)
    have ne_i1_cc : i1 ≠ cc := Nat.ne_of_lt (Nat.lt_of_lt_of_le f16_11.lt sz_cc)
    have ne_vl_cc : vl ≠ cc := Nat.ne_of_lt (Nat.lt_of_lt_of_le f16_12.lt sz_cc)
    have ne_el_cc : el ≠ cc := Nat.ne_of_lt (Nat.lt_of_lt_of_le f16_13.lt sz_cc)
    have ne_m0_cc : m0 ≠ cc := Nat.ne_of_lt (Nat.lt_of_lt_of_le f16_14.lt sz_cc)
    have ne_m1_cc : m1 ≠ cc := Nat.ne_of_lt (Nat.lt_of_lt_of_le f16_15.lt sz_cc)
    have ne_ca_cc : ca ≠ cc := Nat.ne_of_lt (Nat.lt_of_lt_of_le f16_30.lt sz_cc)
    have ne_cb_cc : cb ≠ cc := Nat.ne_of_lt (Nat.lt_of_lt_of_le p16_12.lt sz_cc)
    have f17_0 : Arv Z T17.heap pb kpb .int (2 : Int32) [(.int sb0), (.int sb1)] (.int 0) := f16_0.keep K17q (ninS ne_pb_b13 (ninS ne_pb_co (ninS ne_pb_cs nin0)))
    have f17_1 : Exa Z T17.heap b1 "[D" := f16_1.keep K17q
    have f17_2 : Arv Z T17.heap b1 k1 .double (2 : Int32) [(.double dl), (.double dm)] (.double 0) := f16_2.keep K17q (ninS ne_b1_b13 (ninS ne_b1_co (ninS ne_b1_cs nin0)))
    have f17_3 : Exa Z T17.heap b13 "com/example/composure/composure/select/Simplex" := f16_5.keep K17q
    have f17_4 : Arv Z T17.heap bc kbc .boolean (16 : Int32) [(.int 0), (.int 0), (.int 0), (.int 0), (.int 0), (.int 0), (.int 0), (.int 0), (.int 0), (.int 0), (.int 0), (.int 0), (.int 0), (.int 0), (.int 0), (.int 0)] (.int 0) := f16_6.keep K17q (ninS (Ne.symm ne_b13_bc) (ninS (own_nd nd14 (i := 2) (j := 0) rfl rfl (by decide)) (ninS (own_nd nd14 (i := 2) (j := 1) rfl rfl (by decide)) nin0)))
    have f17_5 : Arv Z T17.heap li kli .double (2 : Int32) [(.double dl), (.double dm)] (.double 0) := f16_7.keep K17q (ninS (Ne.symm ne_b13_li) (ninS (own_nd nd14 (i := 3) (j := 0) rfl rfl (by decide)) (ninS (own_nd nd14 (i := 3) (j := 1) rfl rfl (by decide)) nin0)))
    have f17_6 : Arv Z T17.heap ba kba .int (2 : Int32) [(.int (-1)), (.int (-1))] (.int 0) := f16_8.keep K17q (ninS (Ne.symm ne_b13_ba) (ninS (own_nd nd14 (i := 4) (j := 0) rfl rfl (by decide)) (ninS (own_nd nd14 (i := 4) (j := 1) rfl rfl (by decide)) nin0)))
    have f17_7 : Arv Z T17.heap iv kiv (.array .double) (2 : Int32) [(.ref i0), (.ref i1)] .null := f16_9.keep K17q (ninS (Ne.symm ne_b13_iv) (ninS (own_nd nd14 (i := 5) (j := 0) rfl rfl (by decide)) (ninS (own_nd nd14 (i := 5) (j := 1) rfl rfl (by decide)) nin0)))
    have f17_8 : Arv Z T17.heap i0 ki0 .double (2 : Int32) [(.double 0), (.double 0)] (.double 0) := f16_10.keep K17q (ninS (Ne.symm ne_b13_i0) (ninS (own_nd nd14 (i := 6) (j := 0) rfl rfl (by decide)) (ninS (own_nd nd14 (i := 6) (j := 1) rfl rfl (by decide)) nin0)))
    have f17_9 : Arv Z T17.heap i1 ki1 .double (2 : Int32) [(.double 0), (.double 0)] (.double 0) := f16_11.keep K17q (ninS (Ne.symm ne_b13_i1) (ninS (own_nd nd14 (i := 7) (j := 0) rfl rfl (by decide)) (ninS (own_nd nd14 (i := 7) (j := 1) rfl rfl (by decide)) nin0)))
    have f17_10 : Arv Z T17.heap vl kvl .double (2 : Int32) [(.double 0), (.double 0)] (.double 0) := f16_12.keep K17q (ninS (Ne.symm ne_b13_vl) (ninS (own_nd nd14 (i := 8) (j := 0) rfl rfl (by decide)) (ninS (own_nd nd14 (i := 8) (j := 1) rfl rfl (by decide)) nin0)))
    have f17_11 : Arv Z T17.heap el kel (.array .double) (2 : Int32) [(.ref m0), (.ref m1)] .null := f16_13.keep K17q (ninS (Ne.symm ne_b13_el) (ninS (own_nd nd14 (i := 9) (j := 0) rfl rfl (by decide)) (ninS (own_nd nd14 (i := 9) (j := 1) rfl rfl (by decide)) nin0)))
    have f17_12 : Arv Z T17.heap m0 km0 .double (4 : Int32) [(.double 0), (.double 0), (.double 0), (.double 0)] (.double 0) := f16_14.keep K17q (ninS (Ne.symm ne_b13_m0) (ninS (own_nd nd14 (i := 10) (j := 0) rfl rfl (by decide)) (ninS (own_nd nd14 (i := 10) (j := 1) rfl rfl (by decide)) nin0)))
    have f17_13 : Arv Z T17.heap m1 km1 .double (4 : Int32) [(.double 0), (.double 0), (.double 0), (.double 0)] (.double 0) := f16_15.keep K17q (ninS (Ne.symm ne_b13_m1) (ninS (own_nd nd14 (i := 11) (j := 0) rfl rfl (by decide)) (ninS (own_nd nd14 (i := 11) (j := 1) rfl rfl (by decide)) nin0)))
    have f17_14 : Exa Z T17.heap m0 "[D" := f16_16.keep K17q
    have f17_15 : Exa Z T17.heap m1 "[D" := f16_17.keep K17q
    have f17_16 : Arv Z T17.heap ca k4 .double (2 : Int32) [(.double ux), (.double FP.dconst0)] (.double 0) := f16_30.keep K17q (ninS (Ne.symm ne_b13_ca) (ninS (Ne.symm ne_co_ca) (ninS (Ne.symm ne_cs_ca) nin0)))
    have f17_29 : Arv Z T17.heap cb k7 .double (2 : Int32) [(.double FP.dconst0), (.double uy)] (.double 0) := p16_12.keep K17q (ninS (Ne.symm ne_b13_cb) (ninS (Ne.symm ne_co_cb) (ninS (Ne.symm ne_cs_cb) nin0)))
    have Z17 : n0 ≤ T17.heap.size := Nat.le_trans Z16 K17q.1
    refine own_go (fun _ k => st17.trans k) ?_
    refine own_go (A := oW p e below T17 (oF_law m 306 (oi p0) (oi p1) (oi p2) (oi p3) (oi p4) (oi p5) (oj c0) .second (oj c1) .second (oj c2) .second (oj l0) .second (oj dd) .second (oj mm) .second (oi (p5 &&& (3 : Int32))) (oi (((p5.toUInt32 >>> ((2 : Int32) &&& 31).toUInt32).toInt32) &&& (3 : Int32))) (oi ((((p5.toUInt32 >>> ((4 : Int32) &&& 31).toUInt32).toInt32) &&& (268435455 : Int32)) % (3 : Int32))) (oj s0) .second (oj s1) .second (oR pb) (oj xp) .second (oR b1) (oR b4) (oR b7) (oR b10) (oR b13) .unset .unset .unset [])) (fun t k => by
      refine XS.pop X17.here hx rfl (hb hby at_305) rfl rfl ?_
      exact k) ?_
    rcases hs with ⟨rfl, rfl, rfl⟩ | ⟨rfl, rfl, rfl⟩ | ⟨rfl, rfl, rfl⟩
    · skip
      obtain ⟨a01, a08, q01, q08⟩ := own_ABb hAB0
      obtain ⟨a11, a18, q11, q18⟩ := own_ABb hAB1
      obtain ⟨ok0, S_z0⟩ := own_row S_vx own_S0' S_dl S_dm (X := QB0 * l0.toInt) (Y := 0 * mm.toInt) rfl rfl (Nat.le_trans (own_mb (A := 8) (B := 999999) (by omega) (by omega)) (by decide)) (Nat.le_trans (own_mb (A := 8) (B := 1999998) (by omega) (by omega)) (by decide))
      obtain ⟨ok1, S_z1⟩ := own_row own_S0' S_vy S_dl S_dm (X := 0 * l0.toInt) (Y := QB1 * mm.toInt) rfl rfl (Nat.le_trans (own_mb (A := 8) (B := 999999) (by omega) (by omega)) (by decide)) (Nat.le_trans (own_mb (A := 8) (B := 1999998) (by omega) (by omega)) (by decide))
      have E0 : QB0 * l0.toInt + 0 * mm.toInt = QB0 * l0.toInt := by omega
      rw [E0] at S_z0
      have P0 : 0 ≤ QB0 * l0.toInt := Int.mul_nonneg (by omega) (by omega)
      have M0 : (QB0 * l0.toInt).natAbs ≤ 8 * 1999998 := own_mb (A := 8) (B := 1999998) (by omega) (by omega)
      have ge0 := own_geS S_z0 P0
      have E1 : 0 * l0.toInt + QB1 * mm.toInt = QB1 * mm.toInt := by omega
      rw [E1] at S_z1
      have P1 : 0 ≤ QB1 * mm.toInt := Int.mul_nonneg (by omega) (by omega)
      have M1 : (QB1 * mm.toInt).natAbs ≤ 8 * 1999998 := own_mb (A := 8) (B := 1999998) (by omega) (by omega)
      have ge1 := own_geS S_z1 P1
      obtain ⟨okv, S_v⟩ := own_val S_wk0 S_wk1 S_z0 S_z1 (X := c0.toInt * (QB0 * l0.toInt)) (Y := c1.toInt * (QB1 * mm.toInt)) rfl rfl (Nat.le_trans (own_mb (A := 999999) b_c0 M0) (by decide)) (Nat.le_trans (own_mb (A := 999999) b_c1 M1) (by decide))
      refine own_go (A := oW p e below T17 (oF_law m 310 (oi p0) (oi p1) (oi p2) (oi p3) (oi p4) (oi p5) (oj c0) .second (oj c1) .second (oj c2) .second (oj l0) .second (oj dd) .second (oj mm) .second (oi (p5 &&& (3 : Int32))) (oi (((p5.toUInt32 >>> ((2 : Int32) &&& 31).toUInt32).toInt32) &&& (3 : Int32))) (oi ((((p5.toUInt32 >>> ((4 : Int32) &&& 31).toUInt32).toInt32) &&& (268435455 : Int32)) % (3 : Int32))) (oj s0) .second (oj s1) .second (oR pb) (oj (((c0 * l0) * s1) + ((c1 * mm) * s0))) .second (oR b1) (oR b4) (oR b7) (oR b10) (oR b13) .unset .unset .unset [(.ref pb), (.ref b13)])) (fun t k => by
        refine XS.aload X17.here hx rfl (hb hby at_306) rfl rfl ?_
        refine XS.aload X17.here hx rfl (hb hby at_308) rfl rfl ?_
        exact k) ?_
      obtain ⟨cq18, kq18, q18a, q18b, q18c⟩ := isOf hZ rfl f17_3
      obtain ⟨_, _, ⟨T18, L18, k18, n18⟩, -, X18, ⟨Lc18, hQ18, l18, y18, z18⟩, st18⟩ := X17.virtualBack hx (y := (⟨"com/example/composure/composure/select/Simplex", "start", "([I)Z"⟩ : MethodName)) (z := (⟨"com/example/composure/composure/select/Simplex", "start", "([I)Z"⟩ : MethodName)) hown (mvT hZ ow61) (mvT hZ ow62) (notFace_of_selects (args := #[]) (mvT hZ ow64)) (mvT hZ ow64) (mvT hZ ow63) (by decide) (backOf (W := 0) (own_rm_start l Z a0 hw [] b13 pb co ca cb cs bc li ba iv i0 i1 vl el m0 m1 kco k4 k7 kcs kbc kli kba kiv ki0 ki1 kvl kel km0 km1 kpb ux vx wx uy vy wy dl dm ux FP.dconst0 FP.dconst0 uy vx (0 : UInt64) (0 : UInt64) vy (0 : Int32) (1 : Int32) [(.ref ca), (.ref cb), (.ref cc), .null, .null, .null, .null, .null, .null, .null, .null, .null, .null, .null, .null, .null] T17.heap n0 Z17 (own_ndS (ninS ne_b13_co (ninS ne_b13_ca (ninS ne_b13_cb (ninS ne_b13_cs (ninS ne_b13_bc (ninS ne_b13_li (ninS ne_b13_ba (ninS ne_b13_iv (ninS ne_b13_i0 (ninS ne_b13_i1 (ninS ne_b13_vl (ninS ne_b13_el (ninS ne_b13_m0 (ninS ne_b13_m1 (ninS (Ne.symm ne_pb_b13) nin0))))))))))))))) (own_ndS (ninS ne_co_ca (ninS ne_co_cb (ninS (own_nd nd14 (i := 0) (j := 1) rfl rfl (by decide)) (ninS (own_nd nd14 (i := 0) (j := 2) rfl rfl (by decide)) (ninS (own_nd nd14 (i := 0) (j := 3) rfl rfl (by decide)) (ninS (own_nd nd14 (i := 0) (j := 4) rfl rfl (by decide)) (ninS (own_nd nd14 (i := 0) (j := 5) rfl rfl (by decide)) (ninS (own_nd nd14 (i := 0) (j := 6) rfl rfl (by decide)) (ninS (own_nd nd14 (i := 0) (j := 7) rfl rfl (by decide)) (ninS (own_nd nd14 (i := 0) (j := 8) rfl rfl (by decide)) (ninS (own_nd nd14 (i := 0) (j := 9) rfl rfl (by decide)) (ninS (own_nd nd14 (i := 0) (j := 10) rfl rfl (by decide)) (ninS (own_nd nd14 (i := 0) (j := 11) rfl rfl (by decide)) (ninS (Ne.symm ne_pb_co) nin0)))))))))))))) (own_ndS (ninS ne_ca_cb (ninS (Ne.symm ne_cs_ca) (ninS (Ne.symm ne_bc_ca) (ninS (Ne.symm ne_li_ca) (ninS (Ne.symm ne_ba_ca) (ninS (Ne.symm ne_iv_ca) (ninS (Ne.symm ne_i0_ca) (ninS (Ne.symm ne_i1_ca) (ninS (Ne.symm ne_vl_ca) (ninS (Ne.symm ne_el_ca) (ninS (Ne.symm ne_m0_ca) (ninS (Ne.symm ne_m1_ca) (ninS (Ne.symm ne_pb_ca) nin0))))))))))))) (own_ndS (ninS (Ne.symm ne_cs_cb) (ninS (Ne.symm ne_bc_cb) (ninS (Ne.symm ne_li_cb) (ninS (Ne.symm ne_ba_cb) (ninS (Ne.symm ne_iv_cb) (ninS (Ne.symm ne_i0_cb) (ninS (Ne.symm ne_i1_cb) (ninS (Ne.symm ne_vl_cb) (ninS (Ne.symm ne_el_cb) (ninS (Ne.symm ne_m0_cb) (ninS (Ne.symm ne_m1_cb) (ninS (Ne.symm ne_pb_cb) nin0)))))))))))) (own_ndS (ninS (own_nd nd14 (i := 1) (j := 2) rfl rfl (by decide)) (ninS (own_nd nd14 (i := 1) (j := 3) rfl rfl (by decide)) (ninS (own_nd nd14 (i := 1) (j := 4) rfl rfl (by decide)) (ninS (own_nd nd14 (i := 1) (j := 5) rfl rfl (by decide)) (ninS (own_nd nd14 (i := 1) (j := 6) rfl rfl (by decide)) (ninS (own_nd nd14 (i := 1) (j := 7) rfl rfl (by decide)) (ninS (own_nd nd14 (i := 1) (j := 8) rfl rfl (by decide)) (ninS (own_nd nd14 (i := 1) (j := 9) rfl rfl (by decide)) (ninS (own_nd nd14 (i := 1) (j := 10) rfl rfl (by decide)) (ninS (own_nd nd14 (i := 1) (j := 11) rfl rfl (by decide)) (ninS (Ne.symm ne_pb_cs) nin0))))))))))) (own_ndS (ninS (own_nd nd14 (i := 2) (j := 3) rfl rfl (by decide)) (ninS (own_nd nd14 (i := 2) (j := 4) rfl rfl (by decide)) (ninS (own_nd nd14 (i := 2) (j := 5) rfl rfl (by decide)) (ninS (own_nd nd14 (i := 2) (j := 6) rfl rfl (by decide)) (ninS (own_nd nd14 (i := 2) (j := 7) rfl rfl (by decide)) (ninS (own_nd nd14 (i := 2) (j := 8) rfl rfl (by decide)) (ninS (own_nd nd14 (i := 2) (j := 9) rfl rfl (by decide)) (ninS (own_nd nd14 (i := 2) (j := 10) rfl rfl (by decide)) (ninS (own_nd nd14 (i := 2) (j := 11) rfl rfl (by decide)) (ninS (Ne.symm ne_pb_bc) nin0)))))))))) (own_ndS (ninS (own_nd nd14 (i := 3) (j := 4) rfl rfl (by decide)) (ninS (own_nd nd14 (i := 3) (j := 5) rfl rfl (by decide)) (ninS (own_nd nd14 (i := 3) (j := 6) rfl rfl (by decide)) (ninS (own_nd nd14 (i := 3) (j := 7) rfl rfl (by decide)) (ninS (own_nd nd14 (i := 3) (j := 8) rfl rfl (by decide)) (ninS (own_nd nd14 (i := 3) (j := 9) rfl rfl (by decide)) (ninS (own_nd nd14 (i := 3) (j := 10) rfl rfl (by decide)) (ninS (own_nd nd14 (i := 3) (j := 11) rfl rfl (by decide)) (ninS (Ne.symm ne_pb_li) nin0))))))))) (own_ndS (ninS (own_nd nd14 (i := 4) (j := 5) rfl rfl (by decide)) (ninS (own_nd nd14 (i := 4) (j := 6) rfl rfl (by decide)) (ninS (own_nd nd14 (i := 4) (j := 7) rfl rfl (by decide)) (ninS (own_nd nd14 (i := 4) (j := 8) rfl rfl (by decide)) (ninS (own_nd nd14 (i := 4) (j := 9) rfl rfl (by decide)) (ninS (own_nd nd14 (i := 4) (j := 10) rfl rfl (by decide)) (ninS (own_nd nd14 (i := 4) (j := 11) rfl rfl (by decide)) (ninS (Ne.symm ne_pb_ba) nin0)))))))) (own_ndS (ninS (own_nd nd14 (i := 5) (j := 6) rfl rfl (by decide)) (ninS (own_nd nd14 (i := 5) (j := 7) rfl rfl (by decide)) (ninS (own_nd nd14 (i := 5) (j := 8) rfl rfl (by decide)) (ninS (own_nd nd14 (i := 5) (j := 9) rfl rfl (by decide)) (ninS (own_nd nd14 (i := 5) (j := 10) rfl rfl (by decide)) (ninS (own_nd nd14 (i := 5) (j := 11) rfl rfl (by decide)) (ninS (Ne.symm ne_pb_iv) nin0))))))) (own_ndS (ninS (own_nd nd14 (i := 6) (j := 7) rfl rfl (by decide)) (ninS (own_nd nd14 (i := 6) (j := 8) rfl rfl (by decide)) (ninS (own_nd nd14 (i := 6) (j := 9) rfl rfl (by decide)) (ninS (own_nd nd14 (i := 6) (j := 10) rfl rfl (by decide)) (ninS (own_nd nd14 (i := 6) (j := 11) rfl rfl (by decide)) (ninS (Ne.symm ne_pb_i0) nin0)))))) (own_ndS (ninS (own_nd nd14 (i := 7) (j := 8) rfl rfl (by decide)) (ninS (own_nd nd14 (i := 7) (j := 9) rfl rfl (by decide)) (ninS (own_nd nd14 (i := 7) (j := 10) rfl rfl (by decide)) (ninS (own_nd nd14 (i := 7) (j := 11) rfl rfl (by decide)) (ninS (Ne.symm ne_pb_i1) nin0))))) (own_ndS (ninS (own_nd nd14 (i := 8) (j := 9) rfl rfl (by decide)) (ninS (own_nd nd14 (i := 8) (j := 10) rfl rfl (by decide)) (ninS (own_nd nd14 (i := 8) (j := 11) rfl rfl (by decide)) (ninS (Ne.symm ne_pb_vl) nin0)))) (own_ndS (ninS (own_nd nd14 (i := 9) (j := 10) rfl rfl (by decide)) (ninS (own_nd nd14 (i := 9) (j := 11) rfl rfl (by decide)) (ninS (Ne.symm ne_pb_el) nin0))) (own_ndS (ninS (own_nd nd14 (i := 10) (j := 11) rfl rfl (by decide)) (ninS (Ne.symm ne_pb_m0) nin0)) (own_ndS (ninS (Ne.symm ne_pb_m1) nin0) (own_ndS nin0 List.nodup_nil)))))))))))))))) hPx hPy g_ba g_bc g_el g_m0 g_m1 g_i0 g_i1 g_vl ok0 ok1 Oel (Or.inl ⟨rfl, rfl, rfl, rfl, rfl, rfl, rfl, rfl⟩) ⟨by decide, by decide⟩ ⟨by decide, by decide⟩ rfl rfl ge0 ge1 f17_3 p17_0 p17_9 p17_2 p17_6 p17_7 p17_5 p17_8 f17_11 p17_10 f17_16 f17_29 f17_6 f17_12 f17_13 f17_14 f17_15 f17_7 f17_8 f17_9 f17_5 f17_10 p17_4 f17_4 f17_0) hZ ow65 ow7 (by decide) (by decide)) q18a q18c (g := (oF_law m 310 (oi p0) (oi p1) (oi p2) (oi p3) (oi p4) (oi p5) (oj c0) .second (oj c1) .second (oj c2) .second (oj l0) .second (oj dd) .second (oj mm) .second (oi (p5 &&& (3 : Int32))) (oi (((p5.toUInt32 >>> ((2 : Int32) &&& 31).toUInt32).toInt32) &&& (3 : Int32))) (oi ((((p5.toUInt32 >>> ((4 : Int32) &&& 31).toUInt32).toInt32) &&& (268435455 : Int32)) % (3 : Int32))) (oj s0) .second (oj s1) .second (oR pb) (oj (((c0 * l0) * s1) + ((c1 * mm) * s0))) .second (oR b1) (oR b4) (oR b7) (oR b10) (oR b13) .unset .unset .unset [(.ref pb), (.ref b13)])) rfl (by rw [hml]; rfl) (Steps.refl _) (argsL := [(.ref pb)]) (rest := []) (lenOf own_pd_285bI29Z rfl) rfl (by show 2 * 0 + _ ≤ _; exact Nat.le_of_eq rfl) (hb hby at_310) (fun _ _ => ⟨rfl, rfl, (by decide : 24 + 0 ≤ _), (by decide : 119 + 0 ≤ _)⟩)
      dsimp only [Pt.U, Pt.locs, Pt.cells, Pt.slots] at X18 l18 y18 z18 st18 hQ18
      subst l18 y18 z18
      obtain ⟨rfl, N18q, K18q, p18_0, p18_1⟩ := hQ18
      have N18 := Fr.app N17 N18q
      have f18_0 : Exa Z T18.heap b13 "com/example/composure/composure/select/Simplex" := f17_3.keep K18q
      have f18_1 : Fld Z T18.heap b13 "com/example/composure/composure/select/Simplex" "rows" "I" (.int 2) := p17_0.keep K18q (ninS ne_b13_ba (ninS ne_b13_bc (ninS ne_b13_el (ninS ne_b13_m0 (ninS ne_b13_m1 (ninS ne_b13_i0 (ninS ne_b13_i1 (ninS ne_b13_vl nin0))))))))
      have f18_2 : Fld Z T18.heap b13 "com/example/composure/composure/select/Simplex" "costs" "[D" (.ref cs) := p17_3.keep K18q (ninS ne_b13_ba (ninS ne_b13_bc (ninS ne_b13_el (ninS ne_b13_m0 (ninS ne_b13_m1 (ninS ne_b13_i0 (ninS ne_b13_i1 (ninS ne_b13_vl nin0))))))))
      have f18_3 : Fld Z T18.heap b13 "com/example/composure/composure/select/Simplex" "basis" "[I" (.ref ba) := p17_6.keep K18q (ninS ne_b13_ba (ninS ne_b13_bc (ninS ne_b13_el (ninS ne_b13_m0 (ninS ne_b13_m1 (ninS ne_b13_i0 (ninS ne_b13_i1 (ninS ne_b13_vl nin0))))))))
      have f18_4 : Fld Z T18.heap b13 "com/example/composure/composure/select/Simplex" "values" "[D" (.ref vl) := p17_8.keep K18q (ninS ne_b13_ba (ninS ne_b13_bc (ninS ne_b13_el (ninS ne_b13_m0 (ninS ne_b13_m1 (ninS ne_b13_i0 (ninS ne_b13_i1 (ninS ne_b13_vl nin0))))))))
      have f18_5 : Arv Z T18.heap cs kcs .double (16 : Int32) [(.double wk0), (.double wk1), (.double wk2), (.double 0), (.double 0), (.double 0), (.double 0), (.double 0), (.double 0), (.double 0), (.double 0), (.double 0), (.double 0), (.double 0), (.double 0), (.double 0)] (.double 0) := p17_11.keep K18q (ninS (own_nd nd14 (i := 1) (j := 4) rfl rfl (by decide)) (ninS (own_nd nd14 (i := 1) (j := 2) rfl rfl (by decide)) (ninS (own_nd nd14 (i := 1) (j := 9) rfl rfl (by decide)) (ninS (own_nd nd14 (i := 1) (j := 10) rfl rfl (by decide)) (ninS (own_nd nd14 (i := 1) (j := 11) rfl rfl (by decide)) (ninS (own_nd nd14 (i := 1) (j := 6) rfl rfl (by decide)) (ninS (own_nd nd14 (i := 1) (j := 7) rfl rfl (by decide)) (ninS (own_nd nd14 (i := 1) (j := 8) rfl rfl (by decide)) nin0))))))))
      have Z18 : n0 ≤ T18.heap.size := Nat.le_trans Z17 K18q.1
      refine own_go (fun _ k => st18.trans k) ?_
      refine own_go (A := oW p e below T18 (oF_law m 317 (oi p0) (oi p1) (oi p2) (oi p3) (oi p4) (oi p5) (oj c0) .second (oj c1) .second (oj c2) .second (oj l0) .second (oj dd) .second (oj mm) .second (oi (p5 &&& (3 : Int32))) (oi (((p5.toUInt32 >>> ((2 : Int32) &&& 31).toUInt32).toInt32) &&& (3 : Int32))) (oi ((((p5.toUInt32 >>> ((4 : Int32) &&& 31).toUInt32).toInt32) &&& (268435455 : Int32)) % (3 : Int32))) (oj s0) .second (oj s1) .second (oR pb) (oj (((c0 * l0) * s1) + ((c1 * mm) * s0))) .second (oR b1) (oR b4) (oR b7) (oR b10) (oR b13) (oi 1) .unset .unset [(.ref b13)])) (fun t k => by
        refine XS.istore X18.here hx rfl (hb hby at_313) rfl (l' := #[(oi p0), (oi p1), (oi p2), (oi p3), (oi p4), (oi p5), (oj c0), .second, (oj c1), .second, (oj c2), .second, (oj l0), .second, (oj dd), .second, (oj mm), .second, (oi (p5 &&& (3 : Int32))), (oi (((p5.toUInt32 >>> ((2 : Int32) &&& 31).toUInt32).toInt32) &&& (3 : Int32))), (oi ((((p5.toUInt32 >>> ((4 : Int32) &&& 31).toUInt32).toInt32) &&& (268435455 : Int32)) % (3 : Int32))), (oj s0), .second, (oj s1), .second, (oR pb), (oj (((c0 * l0) * s1) + ((c1 * mm) * s0))), .second, (oR b1), (oR b4), (oR b7), (oR b10), (oR b13), (oi 1), .unset, .unset]) rfl ?_
        refine XS.aload X18.here hx rfl (hb hby at_315) rfl rfl ?_
        exact k) ?_
      obtain ⟨cq19, kq19, q19a, q19b, q19c⟩ := isOf hZ rfl f18_0
      obtain ⟨_, _, ⟨T19, L19, k19, n19⟩, -, X19, ⟨Lc19, hQ19, l19, y19, z19⟩, st19⟩ := X18.virtualBack hx (y := (⟨"com/example/composure/composure/select/Simplex", "value", "()D"⟩ : MethodName)) (z := (⟨"com/example/composure/composure/select/Simplex", "value", "()D"⟩ : MethodName)) hown (mvT hZ ow90) (mvT hZ ow91) (notFace_of_selects (args := #[]) (mvT hZ ow93)) (mvT hZ ow93) (mvT hZ ow92) (by decide) (backOf (W := 0) (own_rm_value l Z a0 hw [] b13 cs ba vl kcs kba kvl wk0 wk1 (own_tot vx (0 : UInt64) dl dm) (own_tot (0 : UInt64) vy dl dm) (0 : Int32) (1 : Int32) [(.double wk0), (.double wk1), (.double wk2), (.double 0), (.double 0), (.double 0), (.double 0), (.double 0), (.double 0), (.double 0), (.double 0), (.double 0), (.double 0), (.double 0), (.double 0), (.double 0)] T18.heap n0 Z18 okv ⟨by decide, by decide⟩ ⟨by decide, by decide⟩ rfl rfl f18_0 f18_1 f18_2 f18_3 f18_4 f18_5 p18_0 p18_1) hZ ow94 ow7 (by decide) (by decide)) q19a q19c (g := (oF_law m 317 (oi p0) (oi p1) (oi p2) (oi p3) (oi p4) (oi p5) (oj c0) .second (oj c1) .second (oj c2) .second (oj l0) .second (oj dd) .second (oj mm) .second (oi (p5 &&& (3 : Int32))) (oi (((p5.toUInt32 >>> ((2 : Int32) &&& 31).toUInt32).toInt32) &&& (3 : Int32))) (oi ((((p5.toUInt32 >>> ((4 : Int32) &&& 31).toUInt32).toInt32) &&& (268435455 : Int32)) % (3 : Int32))) (oj s0) .second (oj s1) .second (oR pb) (oj (((c0 * l0) * s1) + ((c1 * mm) * s0))) .second (oR b1) (oR b4) (oR b7) (oR b10) (oR b13) (oi 1) .unset .unset [(.ref b13)])) rfl (by rw [hml]; rfl) (Steps.refl _) (argsL := []) (rest := []) (lenOf own_pd_2829D rfl) rfl (by show 2 * 0 + _ ≤ _; exact Nat.le_of_eq rfl) (hb hby at_317) (fun _ _ => ⟨rfl, rfl, (by decide : 24 + 0 ≤ _), (by decide : 119 + 0 ≤ _)⟩)
      dsimp only [Pt.U, Pt.locs, Pt.cells, Pt.slots] at X19 l19 y19 z19 st19 hQ19
      subst l19 y19 z19
      obtain ⟨rfl, N19q, eh19⟩ := hQ19
      have N19 := Fr.app N18 N19q
      refine own_go (fun _ k => st19.trans k) ?_
      refine own_go (A := oW p e below T19 (oF_law m 334 (oi p0) (oi p1) (oi p2) (oi p3) (oi p4) (oi p5) (oj c0) .second (oj c1) .second (oj c2) .second (oj l0) .second (oj dd) .second (oj mm) .second (oi (p5 &&& (3 : Int32))) (oi (((p5.toUInt32 >>> ((2 : Int32) &&& 31).toUInt32).toInt32) &&& (3 : Int32))) (oi ((((p5.toUInt32 >>> ((4 : Int32) &&& 31).toUInt32).toInt32) &&& (268435455 : Int32)) % (3 : Int32))) (oj s0) .second (oj s1) .second (oR pb) (oj (((c0 * l0) * s1) + ((c1 * mm) * s0))) .second (oR b1) (oR b4) (oR b7) (oR b10) (oR b13) (oi 1) (od (own_tot wk0 wk1 (own_tot vx (0 : UInt64) dl dm) (own_tot (0 : UInt64) vy dl dm))) .second [(.long (s0 * s1)), (.double (own_tot wk0 wk1 (own_tot vx (0 : UInt64) dl dm) (own_tot (0 : UInt64) vy dl dm)))])) (fun t k => by
        refine XS.dstore X19.here hx rfl (hb hby at_320) rfl (l' := #[(oi p0), (oi p1), (oi p2), (oi p3), (oi p4), (oi p5), (oj c0), .second, (oj c1), .second, (oj c2), .second, (oj l0), .second, (oj dd), .second, (oj mm), .second, (oi (p5 &&& (3 : Int32))), (oi (((p5.toUInt32 >>> ((2 : Int32) &&& 31).toUInt32).toInt32) &&& (3 : Int32))), (oi ((((p5.toUInt32 >>> ((4 : Int32) &&& 31).toUInt32).toInt32) &&& (268435455 : Int32)) % (3 : Int32))), (oj s0), .second, (oj s1), .second, (oR pb), (oj (((c0 * l0) * s1) + ((c1 * mm) * s0))), .second, (oR b1), (oR b4), (oR b7), (oR b10), (oR b13), (oi 1), (od (own_tot wk0 wk1 (own_tot vx (0 : UInt64) dl dm) (own_tot (0 : UInt64) vy dl dm))), .second]) rfl ?_
        refine XS.iload X19.here hx rfl (hb hby at_322) rfl ?_
        refine XS.ifNo X19.here hx rfl (hb hby at_324) rfl ((if0 _ _).trans (feq (by decide : ¬ ((1 : Int32) = (0 : Int32)))).1) ?_
        refine XS.dload X19.here hx rfl (hb hby at_327) rfl ?_
        refine XS.lload X19.here hx rfl (hb hby at_329) rfl ?_
        refine XS.lload X19.here hx rfl (hb hby at_331) rfl ?_
        refine XS.lmul X19.here hx rfl (hb hby at_333) rfl ?_
        exact k) ?_
      have x0 : s0.toInt.natAbs ≤ 8 := by rw [eA0]; omega
      have x1 : s1.toInt.natAbs ≤ 8 := by rw [eA1]; omega
      have t1 : (c0.toInt * l0.toInt).natAbs ≤ 999999 * 1999998 := own_mb b_c0 (by omega)
      have t2 : (c1.toInt * mm.toInt).natAbs ≤ 999999 * 1999998 := own_mb b_c1 (by omega)
      have vp : (s0 * s1).toInt = QA0 * QA1 := own_m2 (A := 8) (B := 8) eA0 eA1 (by omega) (by omega) (by decide)
      have vx_ : (((c0 * l0) * s1) + ((c1 * mm) * s0)).toInt = (c0.toInt * l0.toInt) * QA1 + (c1.toInt * mm.toInt) * QA0 := own_i2 (own_i3 (A := 999999) (B := 1999998) (D := 8) rfl rfl eA1 b_c0 (by omega) (by omega) (by decide) (by decide)) (own_i3 (A := 999999) (B := 1999998) (D := 8) rfl rfl eA0 b_c1 (by omega) (by omega) (by decide) (by decide)) (Nat.le_trans (own_mb (B := 8) t1 (by omega)) (by decide)) (Nat.le_trans (own_mb (B := 8) t2 (by omega)) (by decide))
      have fin : (c0.toInt * (QB0 * l0.toInt) + c1.toInt * (QB1 * mm.toInt)) * (QA0 * QA1) = 8 * ((c0.toInt * l0.toInt) * QA1 + (c1.toInt * mm.toInt) * QA0) ∧ ((c0.toInt * l0.toInt) * QA1 + (c1.toInt * mm.toInt) * QA0).natAbs < 9007199254740992 ∧ ((c0.toInt * (QB0 * l0.toInt) + c1.toInt * (QB1 * mm.toInt)) * (QA0 * QA1)).natAbs < 9007199254740992 := own_arith0 hAB0 hAB1 t1 t2
      obtain ⟨dp, h_dp⟩ : ∃ z, FP.l2d (s0 * s1) = z := ⟨_, rfl⟩
      have S_dp : own_S dp (QA0 * QA1 * 2 ^ 1074) := by rw [← h_dp]; exact own_l2dS vp (Nat.lt_of_le_of_lt (own_mb (A := 8) (B := 8) (by omega) (by omega)) (by decide))
      have nf : Jvm.Free.Fl.NoNaN64 (FP.dmul (own_tot wk0 wk1 (own_tot vx (0 : UInt64) dl dm) (own_tot (0 : UInt64) vy dl dm)) dp) := own_Snn (own_mulS S_v S_dp (k := 3) fin.2.2 (by decide) (own_u _ _ _ _ _ own_pp))
      obtain ⟨dx, h_dx⟩ : ∃ z, FP.l2d (((c0 * l0) * s1) + ((c1 * mm) * s0)) = z := ⟨_, rfl⟩
      have S_dx : own_S dx (((c0.toInt * l0.toInt) * QA1 + (c1.toInt * mm.toInt) * QA0) * 2 ^ 1074) := by rw [← h_dx]; exact own_l2dS vx_ fin.2.1
      obtain ⟨-, cf⟩ := own_end S_v S_dp S_dx fin.2.2 fin.1
      refine own_go (A := oW p e below T19 (oF_law m 348 (oi p0) (oi p1) (oi p2) (oi p3) (oi p4) (oi p5) (oj c0) .second (oj c1) .second (oj c2) .second (oj l0) .second (oj dd) .second (oj mm) .second (oi (p5 &&& (3 : Int32))) (oi (((p5.toUInt32 >>> ((2 : Int32) &&& 31).toUInt32).toInt32) &&& (3 : Int32))) (oi ((((p5.toUInt32 >>> ((4 : Int32) &&& 31).toUInt32).toInt32) &&& (268435455 : Int32)) % (3 : Int32))) (oj s0) .second (oj s1) .second (oR pb) (oj (((c0 * l0) * s1) + ((c1 * mm) * s0))) .second (oR b1) (oR b4) (oR b7) (oR b10) (oR b13) (oi 1) (od (own_tot wk0 wk1 (own_tot vx (0 : UInt64) dl dm) (own_tot (0 : UInt64) vy dl dm))) .second [(.int 1)])) (fun t k => by
        refine XS.l2dS X19.here hx rfl (hb hby at_334) rfl h_dp ?_
        refine XS.dmulS X19.here hx rfl (hb hby at_335) rfl nf rfl ?_
        show oW p e below T19 (oF_law m 336 (oi p0) (oi p1) (oi p2) (oi p3) (oi p4) (oi p5) (oj c0) .second (oj c1) .second (oj c2) .second (oj l0) .second (oj dd) .second (oj mm) .second (oi (p5 &&& (3 : Int32))) (oi (((p5.toUInt32 >>> ((2 : Int32) &&& 31).toUInt32).toInt32) &&& (3 : Int32))) (oi ((((p5.toUInt32 >>> ((4 : Int32) &&& 31).toUInt32).toInt32) &&& (268435455 : Int32)) % (3 : Int32))) (oj s0) .second (oj s1) .second (oR pb) (oj (((c0 * l0) * s1) + ((c1 * mm) * s0))) .second (oR b1) (oR b4) (oR b7) (oR b10) (oR b13) (oi 1) (od (own_tot wk0 wk1 (own_tot vx (0 : UInt64) dl dm) (own_tot (0 : UInt64) vy dl dm))) .second [(.double (FP.dmul (own_tot wk0 wk1 (own_tot vx (0 : UInt64) dl dm) (own_tot (0 : UInt64) vy dl dm)) dp))]) _
        refine XS.lload X19.here hx rfl (hb hby at_336) rfl ?_
        refine XS.l2dS X19.here hx rfl (hb hby at_338) rfl h_dx ?_
        refine XS.dcmpS X19.here hx rfl (hb hby at_339) rfl cf ?_
        refine XS.ifNo X19.here hx rfl (hb hby at_340) rfl ((if0 _ _).trans (teq (by decide : (0 : Int32) = (0 : Int32))).2) ?_
        refine XS.iconst X19.here hx rfl (hb hby at_343) ?_
        refine XS.goto X19.here hx rfl (pc0 := 344) (pc' := 348) rfl (hb hby at_344) (by decide) (by decide) ?_
        exact k) ?_
      obtain ⟨fs, hr, hrun, hended, hW, hsame⟩ := X19.leave (v := some (.int (nar .boolean (1 : Int32)))) (fun h => by rw [Bd.returns] at h; cases h)
      refine ⟨_, _, retN X19 hx (t := .boolean) Bd.returns (by simp) (hb hby at_348) hr, hPf _ _ ⟨hrun, hended, _, _, rfl, ?_, ⟨_, rfl⟩, hW, hsame.mono (by decide) (by decide)⟩⟩
      show own_Q_law Z p0 p1 p2 p3 p4 p5 h0 n0 _ T19.heap _
      rw [eh19]
      exact ⟨rfl, N19⟩
    · skip
      obtain ⟨a01, a08, q01, q08⟩ := own_ABb hAB0
      obtain ⟨a11, a18, q11, q18⟩ := own_ABb hAB1
      obtain ⟨ok0, S_z0⟩ := own_row own_S0' S_vy S_dl S_dm (X := 0 * l0.toInt) (Y := QB1 * mm.toInt) rfl rfl (Nat.le_trans (own_mb (A := 8) (B := 999999) (by omega) (by omega)) (by decide)) (Nat.le_trans (own_mb (A := 8) (B := 1999998) (by omega) (by omega)) (by decide))
      obtain ⟨ok1, S_z1⟩ := own_row S_vx own_S0' S_dl S_dm (X := QB0 * l0.toInt) (Y := 0 * mm.toInt) rfl rfl (Nat.le_trans (own_mb (A := 8) (B := 999999) (by omega) (by omega)) (by decide)) (Nat.le_trans (own_mb (A := 8) (B := 1999998) (by omega) (by omega)) (by decide))
      have E0 : 0 * l0.toInt + QB1 * mm.toInt = QB1 * mm.toInt := by omega
      rw [E0] at S_z0
      have P0 : 0 ≤ QB1 * mm.toInt := Int.mul_nonneg (by omega) (by omega)
      have M0 : (QB1 * mm.toInt).natAbs ≤ 8 * 1999998 := own_mb (A := 8) (B := 1999998) (by omega) (by omega)
      have ge0 := own_geS S_z0 P0
      have E1 : QB0 * l0.toInt + 0 * mm.toInt = QB0 * l0.toInt := by omega
      rw [E1] at S_z1
      have P1 : 0 ≤ QB0 * l0.toInt := Int.mul_nonneg (by omega) (by omega)
      have M1 : (QB0 * l0.toInt).natAbs ≤ 8 * 1999998 := own_mb (A := 8) (B := 1999998) (by omega) (by omega)
      have ge1 := own_geS S_z1 P1
      obtain ⟨okv, S_v⟩ := own_val S_wk1 S_wk0 S_z0 S_z1 (X := c1.toInt * (QB1 * mm.toInt)) (Y := c0.toInt * (QB0 * l0.toInt)) rfl rfl (Nat.le_trans (own_mb (A := 999999) b_c1 M0) (by decide)) (Nat.le_trans (own_mb (A := 999999) b_c0 M1) (by decide))
      refine own_go (A := oW p e below T17 (oF_law m 310 (oi p0) (oi p1) (oi p2) (oi p3) (oi p4) (oi p5) (oj c0) .second (oj c1) .second (oj c2) .second (oj l0) .second (oj dd) .second (oj mm) .second (oi (p5 &&& (3 : Int32))) (oi (((p5.toUInt32 >>> ((2 : Int32) &&& 31).toUInt32).toInt32) &&& (3 : Int32))) (oi ((((p5.toUInt32 >>> ((4 : Int32) &&& 31).toUInt32).toInt32) &&& (268435455 : Int32)) % (3 : Int32))) (oj s0) .second (oj s1) .second (oR pb) (oj (((c0 * l0) * s1) + ((c1 * mm) * s0))) .second (oR b1) (oR b4) (oR b7) (oR b10) (oR b13) .unset .unset .unset [(.ref pb), (.ref b13)])) (fun t k => by
        refine XS.aload X17.here hx rfl (hb hby at_306) rfl rfl ?_
        refine XS.aload X17.here hx rfl (hb hby at_308) rfl rfl ?_
        exact k) ?_
      obtain ⟨cq20, kq20, q20a, q20b, q20c⟩ := isOf hZ rfl f17_3
      obtain ⟨_, _, ⟨T20, L20, k20, n20⟩, -, X20, ⟨Lc20, hQ20, l20, y20, z20⟩, st20⟩ := X17.virtualBack hx (y := (⟨"com/example/composure/composure/select/Simplex", "start", "([I)Z"⟩ : MethodName)) (z := (⟨"com/example/composure/composure/select/Simplex", "start", "([I)Z"⟩ : MethodName)) hown (mvT hZ ow61) (mvT hZ ow62) (notFace_of_selects (args := #[]) (mvT hZ ow64)) (mvT hZ ow64) (mvT hZ ow63) (by decide) (backOf (W := 0) (own_rm_start l Z a0 hw [] b13 pb co cb ca cs bc li ba iv i0 i1 vl el m0 m1 kco k7 k4 kcs kbc kli kba kiv ki0 ki1 kvl kel km0 km1 kpb ux vx wx uy vy wy dl dm FP.dconst0 ux uy FP.dconst0 (0 : UInt64) vy vx (0 : UInt64) (1 : Int32) (0 : Int32) [(.ref ca), (.ref cb), (.ref cc), .null, .null, .null, .null, .null, .null, .null, .null, .null, .null, .null, .null, .null] T17.heap n0 Z17 (own_ndS (ninS ne_b13_co (ninS ne_b13_cb (ninS ne_b13_ca (ninS ne_b13_cs (ninS ne_b13_bc (ninS ne_b13_li (ninS ne_b13_ba (ninS ne_b13_iv (ninS ne_b13_i0 (ninS ne_b13_i1 (ninS ne_b13_vl (ninS ne_b13_el (ninS ne_b13_m0 (ninS ne_b13_m1 (ninS (Ne.symm ne_pb_b13) nin0))))))))))))))) (own_ndS (ninS ne_co_cb (ninS ne_co_ca (ninS (own_nd nd14 (i := 0) (j := 1) rfl rfl (by decide)) (ninS (own_nd nd14 (i := 0) (j := 2) rfl rfl (by decide)) (ninS (own_nd nd14 (i := 0) (j := 3) rfl rfl (by decide)) (ninS (own_nd nd14 (i := 0) (j := 4) rfl rfl (by decide)) (ninS (own_nd nd14 (i := 0) (j := 5) rfl rfl (by decide)) (ninS (own_nd nd14 (i := 0) (j := 6) rfl rfl (by decide)) (ninS (own_nd nd14 (i := 0) (j := 7) rfl rfl (by decide)) (ninS (own_nd nd14 (i := 0) (j := 8) rfl rfl (by decide)) (ninS (own_nd nd14 (i := 0) (j := 9) rfl rfl (by decide)) (ninS (own_nd nd14 (i := 0) (j := 10) rfl rfl (by decide)) (ninS (own_nd nd14 (i := 0) (j := 11) rfl rfl (by decide)) (ninS (Ne.symm ne_pb_co) nin0)))))))))))))) (own_ndS (ninS (Ne.symm ne_ca_cb) (ninS (Ne.symm ne_cs_cb) (ninS (Ne.symm ne_bc_cb) (ninS (Ne.symm ne_li_cb) (ninS (Ne.symm ne_ba_cb) (ninS (Ne.symm ne_iv_cb) (ninS (Ne.symm ne_i0_cb) (ninS (Ne.symm ne_i1_cb) (ninS (Ne.symm ne_vl_cb) (ninS (Ne.symm ne_el_cb) (ninS (Ne.symm ne_m0_cb) (ninS (Ne.symm ne_m1_cb) (ninS (Ne.symm ne_pb_cb) nin0))))))))))))) (own_ndS (ninS (Ne.symm ne_cs_ca) (ninS (Ne.symm ne_bc_ca) (ninS (Ne.symm ne_li_ca) (ninS (Ne.symm ne_ba_ca) (ninS (Ne.symm ne_iv_ca) (ninS (Ne.symm ne_i0_ca) (ninS (Ne.symm ne_i1_ca) (ninS (Ne.symm ne_vl_ca) (ninS (Ne.symm ne_el_ca) (ninS (Ne.symm ne_m0_ca) (ninS (Ne.symm ne_m1_ca) (ninS (Ne.symm ne_pb_ca) nin0)))))))))))) (own_ndS (ninS (own_nd nd14 (i := 1) (j := 2) rfl rfl (by decide)) (ninS (own_nd nd14 (i := 1) (j := 3) rfl rfl (by decide)) (ninS (own_nd nd14 (i := 1) (j := 4) rfl rfl (by decide)) (ninS (own_nd nd14 (i := 1) (j := 5) rfl rfl (by decide)) (ninS (own_nd nd14 (i := 1) (j := 6) rfl rfl (by decide)) (ninS (own_nd nd14 (i := 1) (j := 7) rfl rfl (by decide)) (ninS (own_nd nd14 (i := 1) (j := 8) rfl rfl (by decide)) (ninS (own_nd nd14 (i := 1) (j := 9) rfl rfl (by decide)) (ninS (own_nd nd14 (i := 1) (j := 10) rfl rfl (by decide)) (ninS (own_nd nd14 (i := 1) (j := 11) rfl rfl (by decide)) (ninS (Ne.symm ne_pb_cs) nin0))))))))))) (own_ndS (ninS (own_nd nd14 (i := 2) (j := 3) rfl rfl (by decide)) (ninS (own_nd nd14 (i := 2) (j := 4) rfl rfl (by decide)) (ninS (own_nd nd14 (i := 2) (j := 5) rfl rfl (by decide)) (ninS (own_nd nd14 (i := 2) (j := 6) rfl rfl (by decide)) (ninS (own_nd nd14 (i := 2) (j := 7) rfl rfl (by decide)) (ninS (own_nd nd14 (i := 2) (j := 8) rfl rfl (by decide)) (ninS (own_nd nd14 (i := 2) (j := 9) rfl rfl (by decide)) (ninS (own_nd nd14 (i := 2) (j := 10) rfl rfl (by decide)) (ninS (own_nd nd14 (i := 2) (j := 11) rfl rfl (by decide)) (ninS (Ne.symm ne_pb_bc) nin0)))))))))) (own_ndS (ninS (own_nd nd14 (i := 3) (j := 4) rfl rfl (by decide)) (ninS (own_nd nd14 (i := 3) (j := 5) rfl rfl (by decide)) (ninS (own_nd nd14 (i := 3) (j := 6) rfl rfl (by decide)) (ninS (own_nd nd14 (i := 3) (j := 7) rfl rfl (by decide)) (ninS (own_nd nd14 (i := 3) (j := 8) rfl rfl (by decide)) (ninS (own_nd nd14 (i := 3) (j := 9) rfl rfl (by decide)) (ninS (own_nd nd14 (i := 3) (j := 10) rfl rfl (by decide)) (ninS (own_nd nd14 (i := 3) (j := 11) rfl rfl (by decide)) (ninS (Ne.symm ne_pb_li) nin0))))))))) (own_ndS (ninS (own_nd nd14 (i := 4) (j := 5) rfl rfl (by decide)) (ninS (own_nd nd14 (i := 4) (j := 6) rfl rfl (by decide)) (ninS (own_nd nd14 (i := 4) (j := 7) rfl rfl (by decide)) (ninS (own_nd nd14 (i := 4) (j := 8) rfl rfl (by decide)) (ninS (own_nd nd14 (i := 4) (j := 9) rfl rfl (by decide)) (ninS (own_nd nd14 (i := 4) (j := 10) rfl rfl (by decide)) (ninS (own_nd nd14 (i := 4) (j := 11) rfl rfl (by decide)) (ninS (Ne.symm ne_pb_ba) nin0)))))))) (own_ndS (ninS (own_nd nd14 (i := 5) (j := 6) rfl rfl (by decide)) (ninS (own_nd nd14 (i := 5) (j := 7) rfl rfl (by decide)) (ninS (own_nd nd14 (i := 5) (j := 8) rfl rfl (by decide)) (ninS (own_nd nd14 (i := 5) (j := 9) rfl rfl (by decide)) (ninS (own_nd nd14 (i := 5) (j := 10) rfl rfl (by decide)) (ninS (own_nd nd14 (i := 5) (j := 11) rfl rfl (by decide)) (ninS (Ne.symm ne_pb_iv) nin0))))))) (own_ndS (ninS (own_nd nd14 (i := 6) (j := 7) rfl rfl (by decide)) (ninS (own_nd nd14 (i := 6) (j := 8) rfl rfl (by decide)) (ninS (own_nd nd14 (i := 6) (j := 9) rfl rfl (by decide)) (ninS (own_nd nd14 (i := 6) (j := 10) rfl rfl (by decide)) (ninS (own_nd nd14 (i := 6) (j := 11) rfl rfl (by decide)) (ninS (Ne.symm ne_pb_i0) nin0)))))) (own_ndS (ninS (own_nd nd14 (i := 7) (j := 8) rfl rfl (by decide)) (ninS (own_nd nd14 (i := 7) (j := 9) rfl rfl (by decide)) (ninS (own_nd nd14 (i := 7) (j := 10) rfl rfl (by decide)) (ninS (own_nd nd14 (i := 7) (j := 11) rfl rfl (by decide)) (ninS (Ne.symm ne_pb_i1) nin0))))) (own_ndS (ninS (own_nd nd14 (i := 8) (j := 9) rfl rfl (by decide)) (ninS (own_nd nd14 (i := 8) (j := 10) rfl rfl (by decide)) (ninS (own_nd nd14 (i := 8) (j := 11) rfl rfl (by decide)) (ninS (Ne.symm ne_pb_vl) nin0)))) (own_ndS (ninS (own_nd nd14 (i := 9) (j := 10) rfl rfl (by decide)) (ninS (own_nd nd14 (i := 9) (j := 11) rfl rfl (by decide)) (ninS (Ne.symm ne_pb_el) nin0))) (own_ndS (ninS (own_nd nd14 (i := 10) (j := 11) rfl rfl (by decide)) (ninS (Ne.symm ne_pb_m0) nin0)) (own_ndS (ninS (Ne.symm ne_pb_m1) nin0) (own_ndS nin0 List.nodup_nil)))))))))))))))) hPx hPy g_ba g_bc g_el g_m0 g_m1 g_i0 g_i1 g_vl ok0 ok1 Oel (Or.inr (Or.inl ⟨rfl, rfl, rfl, rfl, rfl, rfl, rfl, rfl⟩)) ⟨by decide, by decide⟩ ⟨by decide, by decide⟩ rfl rfl ge0 ge1 f17_3 p17_0 p17_9 p17_2 p17_6 p17_7 p17_5 p17_8 f17_11 p17_10 f17_29 f17_16 f17_6 f17_12 f17_13 f17_14 f17_15 f17_7 f17_8 f17_9 f17_5 f17_10 p17_4 f17_4 f17_0) hZ ow65 ow7 (by decide) (by decide)) q20a q20c (g := (oF_law m 310 (oi p0) (oi p1) (oi p2) (oi p3) (oi p4) (oi p5) (oj c0) .second (oj c1) .second (oj c2) .second (oj l0) .second (oj dd) .second (oj mm) .second (oi (p5 &&& (3 : Int32))) (oi (((p5.toUInt32 >>> ((2 : Int32) &&& 31).toUInt32).toInt32) &&& (3 : Int32))) (oi ((((p5.toUInt32 >>> ((4 : Int32) &&& 31).toUInt32).toInt32) &&& (268435455 : Int32)) % (3 : Int32))) (oj s0) .second (oj s1) .second (oR pb) (oj (((c0 * l0) * s1) + ((c1 * mm) * s0))) .second (oR b1) (oR b4) (oR b7) (oR b10) (oR b13) .unset .unset .unset [(.ref pb), (.ref b13)])) rfl (by rw [hml]; rfl) (Steps.refl _) (argsL := [(.ref pb)]) (rest := []) (lenOf own_pd_285bI29Z rfl) rfl (by show 2 * 0 + _ ≤ _; exact Nat.le_of_eq rfl) (hb hby at_310) (fun _ _ => ⟨rfl, rfl, (by decide : 24 + 0 ≤ _), (by decide : 119 + 0 ≤ _)⟩)
      dsimp only [Pt.U, Pt.locs, Pt.cells, Pt.slots] at X20 l20 y20 z20 st20 hQ20
      subst l20 y20 z20
      obtain ⟨rfl, N20q, K20q, p20_0, p20_1⟩ := hQ20
      have N20 := Fr.app N17 N20q
      have f20_0 : Exa Z T20.heap b13 "com/example/composure/composure/select/Simplex" := f17_3.keep K20q
      have f20_1 : Fld Z T20.heap b13 "com/example/composure/composure/select/Simplex" "rows" "I" (.int 2) := p17_0.keep K20q (ninS ne_b13_ba (ninS ne_b13_bc (ninS ne_b13_el (ninS ne_b13_m0 (ninS ne_b13_m1 (ninS ne_b13_i0 (ninS ne_b13_i1 (ninS ne_b13_vl nin0))))))))
      have f20_2 : Fld Z T20.heap b13 "com/example/composure/composure/select/Simplex" "costs" "[D" (.ref cs) := p17_3.keep K20q (ninS ne_b13_ba (ninS ne_b13_bc (ninS ne_b13_el (ninS ne_b13_m0 (ninS ne_b13_m1 (ninS ne_b13_i0 (ninS ne_b13_i1 (ninS ne_b13_vl nin0))))))))
      have f20_3 : Fld Z T20.heap b13 "com/example/composure/composure/select/Simplex" "basis" "[I" (.ref ba) := p17_6.keep K20q (ninS ne_b13_ba (ninS ne_b13_bc (ninS ne_b13_el (ninS ne_b13_m0 (ninS ne_b13_m1 (ninS ne_b13_i0 (ninS ne_b13_i1 (ninS ne_b13_vl nin0))))))))
      have f20_4 : Fld Z T20.heap b13 "com/example/composure/composure/select/Simplex" "values" "[D" (.ref vl) := p17_8.keep K20q (ninS ne_b13_ba (ninS ne_b13_bc (ninS ne_b13_el (ninS ne_b13_m0 (ninS ne_b13_m1 (ninS ne_b13_i0 (ninS ne_b13_i1 (ninS ne_b13_vl nin0))))))))
      have f20_5 : Arv Z T20.heap cs kcs .double (16 : Int32) [(.double wk0), (.double wk1), (.double wk2), (.double 0), (.double 0), (.double 0), (.double 0), (.double 0), (.double 0), (.double 0), (.double 0), (.double 0), (.double 0), (.double 0), (.double 0), (.double 0)] (.double 0) := p17_11.keep K20q (ninS (own_nd nd14 (i := 1) (j := 4) rfl rfl (by decide)) (ninS (own_nd nd14 (i := 1) (j := 2) rfl rfl (by decide)) (ninS (own_nd nd14 (i := 1) (j := 9) rfl rfl (by decide)) (ninS (own_nd nd14 (i := 1) (j := 10) rfl rfl (by decide)) (ninS (own_nd nd14 (i := 1) (j := 11) rfl rfl (by decide)) (ninS (own_nd nd14 (i := 1) (j := 6) rfl rfl (by decide)) (ninS (own_nd nd14 (i := 1) (j := 7) rfl rfl (by decide)) (ninS (own_nd nd14 (i := 1) (j := 8) rfl rfl (by decide)) nin0))))))))
      have Z20 : n0 ≤ T20.heap.size := Nat.le_trans Z17 K20q.1
      refine own_go (fun _ k => st20.trans k) ?_
      refine own_go (A := oW p e below T20 (oF_law m 317 (oi p0) (oi p1) (oi p2) (oi p3) (oi p4) (oi p5) (oj c0) .second (oj c1) .second (oj c2) .second (oj l0) .second (oj dd) .second (oj mm) .second (oi (p5 &&& (3 : Int32))) (oi (((p5.toUInt32 >>> ((2 : Int32) &&& 31).toUInt32).toInt32) &&& (3 : Int32))) (oi ((((p5.toUInt32 >>> ((4 : Int32) &&& 31).toUInt32).toInt32) &&& (268435455 : Int32)) % (3 : Int32))) (oj s0) .second (oj s1) .second (oR pb) (oj (((c0 * l0) * s1) + ((c1 * mm) * s0))) .second (oR b1) (oR b4) (oR b7) (oR b10) (oR b13) (oi 1) .unset .unset [(.ref b13)])) (fun t k => by
        refine XS.istore X20.here hx rfl (hb hby at_313) rfl (l' := #[(oi p0), (oi p1), (oi p2), (oi p3), (oi p4), (oi p5), (oj c0), .second, (oj c1), .second, (oj c2), .second, (oj l0), .second, (oj dd), .second, (oj mm), .second, (oi (p5 &&& (3 : Int32))), (oi (((p5.toUInt32 >>> ((2 : Int32) &&& 31).toUInt32).toInt32) &&& (3 : Int32))), (oi ((((p5.toUInt32 >>> ((4 : Int32) &&& 31).toUInt32).toInt32) &&& (268435455 : Int32)) % (3 : Int32))), (oj s0), .second, (oj s1), .second, (oR pb), (oj (((c0 * l0) * s1) + ((c1 * mm) * s0))), .second, (oR b1), (oR b4), (oR b7), (oR b10), (oR b13), (oi 1), .unset, .unset]) rfl ?_
        show oW p e below T20 (oF_law m 315 (oi p0) (oi p1) (oi p2) (oi p3) (oi p4) (oi p5) (oj c0) .second (oj c1) .second (oj c2) .second (oj l0) .second (oj dd) .second (oj mm) .second (oi (p5 &&& (3 : Int32))) (oi (((p5.toUInt32 >>> ((2 : Int32) &&& 31).toUInt32).toInt32) &&& (3 : Int32))) (oi ((((p5.toUInt32 >>> ((4 : Int32) &&& 31).toUInt32).toInt32) &&& (268435455 : Int32)) % (3 : Int32))) (oj s0) .second (oj s1) .second (oR pb) (oj (((c0 * l0) * s1) + ((c1 * mm) * s0))) .second (oR b1) (oR b4) (oR b7) (oR b10) (oR b13) (oi 1) .unset .unset []) _
        refine XS.aload X20.here hx rfl (hb hby at_315) rfl rfl ?_
        exact k) ?_
      obtain ⟨cq21, kq21, q21a, q21b, q21c⟩ := isOf hZ rfl f20_0
      obtain ⟨_, _, ⟨T21, L21, k21, n21⟩, -, X21, ⟨Lc21, hQ21, l21, y21, z21⟩, st21⟩ := X20.virtualBack hx (y := (⟨"com/example/composure/composure/select/Simplex", "value", "()D"⟩ : MethodName)) (z := (⟨"com/example/composure/composure/select/Simplex", "value", "()D"⟩ : MethodName)) hown (mvT hZ ow90) (mvT hZ ow91) (notFace_of_selects (args := #[]) (mvT hZ ow93)) (mvT hZ ow93) (mvT hZ ow92) (by decide) (backOf (W := 0) (own_rm_value l Z a0 hw [] b13 cs ba vl kcs kba kvl wk1 wk0 (own_tot (0 : UInt64) vy dl dm) (own_tot vx (0 : UInt64) dl dm) (1 : Int32) (0 : Int32) [(.double wk0), (.double wk1), (.double wk2), (.double 0), (.double 0), (.double 0), (.double 0), (.double 0), (.double 0), (.double 0), (.double 0), (.double 0), (.double 0), (.double 0), (.double 0), (.double 0)] T20.heap n0 Z20 okv ⟨by decide, by decide⟩ ⟨by decide, by decide⟩ rfl rfl f20_0 f20_1 f20_2 f20_3 f20_4 f20_5 p20_0 p20_1) hZ ow94 ow7 (by decide) (by decide)) q21a q21c (g := (oF_law m 317 (oi p0) (oi p1) (oi p2) (oi p3) (oi p4) (oi p5) (oj c0) .second (oj c1) .second (oj c2) .second (oj l0) .second (oj dd) .second (oj mm) .second (oi (p5 &&& (3 : Int32))) (oi (((p5.toUInt32 >>> ((2 : Int32) &&& 31).toUInt32).toInt32) &&& (3 : Int32))) (oi ((((p5.toUInt32 >>> ((4 : Int32) &&& 31).toUInt32).toInt32) &&& (268435455 : Int32)) % (3 : Int32))) (oj s0) .second (oj s1) .second (oR pb) (oj (((c0 * l0) * s1) + ((c1 * mm) * s0))) .second (oR b1) (oR b4) (oR b7) (oR b10) (oR b13) (oi 1) .unset .unset [(.ref b13)])) rfl (by rw [hml]; rfl) (Steps.refl _) (argsL := []) (rest := []) (lenOf own_pd_2829D rfl) rfl (by show 2 * 0 + _ ≤ _; exact Nat.le_of_eq rfl) (hb hby at_317) (fun _ _ => ⟨rfl, rfl, (by decide : 24 + 0 ≤ _), (by decide : 119 + 0 ≤ _)⟩)
      dsimp only [Pt.U, Pt.locs, Pt.cells, Pt.slots] at X21 l21 y21 z21 st21 hQ21
      subst l21 y21 z21
      obtain ⟨rfl, N21q, eh21⟩ := hQ21
      have N21 := Fr.app N20 N21q
      refine own_go (fun _ k => st21.trans k) ?_
      refine own_go (A := oW p e below T21 (oF_law m 334 (oi p0) (oi p1) (oi p2) (oi p3) (oi p4) (oi p5) (oj c0) .second (oj c1) .second (oj c2) .second (oj l0) .second (oj dd) .second (oj mm) .second (oi (p5 &&& (3 : Int32))) (oi (((p5.toUInt32 >>> ((2 : Int32) &&& 31).toUInt32).toInt32) &&& (3 : Int32))) (oi ((((p5.toUInt32 >>> ((4 : Int32) &&& 31).toUInt32).toInt32) &&& (268435455 : Int32)) % (3 : Int32))) (oj s0) .second (oj s1) .second (oR pb) (oj (((c0 * l0) * s1) + ((c1 * mm) * s0))) .second (oR b1) (oR b4) (oR b7) (oR b10) (oR b13) (oi 1) (od (own_tot wk1 wk0 (own_tot (0 : UInt64) vy dl dm) (own_tot vx (0 : UInt64) dl dm))) .second [(.long (s0 * s1)), (.double (own_tot wk1 wk0 (own_tot (0 : UInt64) vy dl dm) (own_tot vx (0 : UInt64) dl dm)))])) (fun t k => by
        refine XS.dstore X21.here hx rfl (hb hby at_320) rfl (l' := #[(oi p0), (oi p1), (oi p2), (oi p3), (oi p4), (oi p5), (oj c0), .second, (oj c1), .second, (oj c2), .second, (oj l0), .second, (oj dd), .second, (oj mm), .second, (oi (p5 &&& (3 : Int32))), (oi (((p5.toUInt32 >>> ((2 : Int32) &&& 31).toUInt32).toInt32) &&& (3 : Int32))), (oi ((((p5.toUInt32 >>> ((4 : Int32) &&& 31).toUInt32).toInt32) &&& (268435455 : Int32)) % (3 : Int32))), (oj s0), .second, (oj s1), .second, (oR pb), (oj (((c0 * l0) * s1) + ((c1 * mm) * s0))), .second, (oR b1), (oR b4), (oR b7), (oR b10), (oR b13), (oi 1), (od (own_tot wk1 wk0 (own_tot (0 : UInt64) vy dl dm) (own_tot vx (0 : UInt64) dl dm))), .second]) rfl ?_
        refine XS.iload X21.here hx rfl (hb hby at_322) rfl ?_
        refine XS.ifNo X21.here hx rfl (hb hby at_324) rfl ((if0 _ _).trans (feq (by decide : ¬ ((1 : Int32) = (0 : Int32)))).1) ?_
        refine XS.dload X21.here hx rfl (hb hby at_327) rfl ?_
        refine XS.lload X21.here hx rfl (hb hby at_329) rfl ?_
        refine XS.lload X21.here hx rfl (hb hby at_331) rfl ?_
        refine XS.lmul X21.here hx rfl (hb hby at_333) rfl ?_
        exact k) ?_
      have x0 : s0.toInt.natAbs ≤ 8 := by rw [eA0]; omega
      have x1 : s1.toInt.natAbs ≤ 8 := by rw [eA1]; omega
      have t1 : (c0.toInt * l0.toInt).natAbs ≤ 999999 * 1999998 := own_mb b_c0 (by omega)
      have t2 : (c1.toInt * mm.toInt).natAbs ≤ 999999 * 1999998 := own_mb b_c1 (by omega)
      have vp : (s0 * s1).toInt = QA0 * QA1 := own_m2 (A := 8) (B := 8) eA0 eA1 (by omega) (by omega) (by decide)
      have vx_ : (((c0 * l0) * s1) + ((c1 * mm) * s0)).toInt = (c0.toInt * l0.toInt) * QA1 + (c1.toInt * mm.toInt) * QA0 := own_i2 (own_i3 (A := 999999) (B := 1999998) (D := 8) rfl rfl eA1 b_c0 (by omega) (by omega) (by decide) (by decide)) (own_i3 (A := 999999) (B := 1999998) (D := 8) rfl rfl eA0 b_c1 (by omega) (by omega) (by decide) (by decide)) (Nat.le_trans (own_mb (B := 8) t1 (by omega)) (by decide)) (Nat.le_trans (own_mb (B := 8) t2 (by omega)) (by decide))
      have fin : (c1.toInt * (QB1 * mm.toInt) + c0.toInt * (QB0 * l0.toInt)) * (QA0 * QA1) = 8 * ((c0.toInt * l0.toInt) * QA1 + (c1.toInt * mm.toInt) * QA0) ∧ ((c0.toInt * l0.toInt) * QA1 + (c1.toInt * mm.toInt) * QA0).natAbs < 9007199254740992 ∧ ((c1.toInt * (QB1 * mm.toInt) + c0.toInt * (QB0 * l0.toInt)) * (QA0 * QA1)).natAbs < 9007199254740992 := own_arith1 hAB0 hAB1 t1 t2
      obtain ⟨dp, h_dp⟩ : ∃ z, FP.l2d (s0 * s1) = z := ⟨_, rfl⟩
      have S_dp : own_S dp (QA0 * QA1 * 2 ^ 1074) := by rw [← h_dp]; exact own_l2dS vp (Nat.lt_of_le_of_lt (own_mb (A := 8) (B := 8) (by omega) (by omega)) (by decide))
      have nf : Jvm.Free.Fl.NoNaN64 (FP.dmul (own_tot wk1 wk0 (own_tot (0 : UInt64) vy dl dm) (own_tot vx (0 : UInt64) dl dm)) dp) := own_Snn (own_mulS S_v S_dp (k := 3) fin.2.2 (by decide) (own_u _ _ _ _ _ own_pp))
      obtain ⟨dx, h_dx⟩ : ∃ z, FP.l2d (((c0 * l0) * s1) + ((c1 * mm) * s0)) = z := ⟨_, rfl⟩
      have S_dx : own_S dx (((c0.toInt * l0.toInt) * QA1 + (c1.toInt * mm.toInt) * QA0) * 2 ^ 1074) := by rw [← h_dx]; exact own_l2dS vx_ fin.2.1
      obtain ⟨-, cf⟩ := own_end S_v S_dp S_dx fin.2.2 fin.1
      refine own_go (A := oW p e below T21 (oF_law m 348 (oi p0) (oi p1) (oi p2) (oi p3) (oi p4) (oi p5) (oj c0) .second (oj c1) .second (oj c2) .second (oj l0) .second (oj dd) .second (oj mm) .second (oi (p5 &&& (3 : Int32))) (oi (((p5.toUInt32 >>> ((2 : Int32) &&& 31).toUInt32).toInt32) &&& (3 : Int32))) (oi ((((p5.toUInt32 >>> ((4 : Int32) &&& 31).toUInt32).toInt32) &&& (268435455 : Int32)) % (3 : Int32))) (oj s0) .second (oj s1) .second (oR pb) (oj (((c0 * l0) * s1) + ((c1 * mm) * s0))) .second (oR b1) (oR b4) (oR b7) (oR b10) (oR b13) (oi 1) (od (own_tot wk1 wk0 (own_tot (0 : UInt64) vy dl dm) (own_tot vx (0 : UInt64) dl dm))) .second [(.int 1)])) (fun t k => by
        refine XS.l2dS X21.here hx rfl (hb hby at_334) rfl h_dp ?_
        show oW p e below T21 (oF_law m 335 (oi p0) (oi p1) (oi p2) (oi p3) (oi p4) (oi p5) (oj c0) .second (oj c1) .second (oj c2) .second (oj l0) .second (oj dd) .second (oj mm) .second (oi (p5 &&& (3 : Int32))) (oi (((p5.toUInt32 >>> ((2 : Int32) &&& 31).toUInt32).toInt32) &&& (3 : Int32))) (oi ((((p5.toUInt32 >>> ((4 : Int32) &&& 31).toUInt32).toInt32) &&& (268435455 : Int32)) % (3 : Int32))) (oj s0) .second (oj s1) .second (oR pb) (oj (((c0 * l0) * s1) + ((c1 * mm) * s0))) .second (oR b1) (oR b4) (oR b7) (oR b10) (oR b13) (oi 1) (od (own_tot wk1 wk0 (own_tot (0 : UInt64) vy dl dm) (own_tot vx (0 : UInt64) dl dm))) .second [(.double dp), (.double (own_tot wk1 wk0 (own_tot (0 : UInt64) vy dl dm) (own_tot vx (0 : UInt64) dl dm)))]) _
        refine XS.dmulS X21.here hx rfl (hb hby at_335) rfl nf rfl ?_
        refine XS.lload X21.here hx rfl (hb hby at_336) rfl ?_
        refine XS.l2dS X21.here hx rfl (hb hby at_338) rfl h_dx ?_
        refine XS.dcmpS X21.here hx rfl (hb hby at_339) rfl cf ?_
        refine XS.ifNo X21.here hx rfl (hb hby at_340) rfl ((if0 _ _).trans (teq (by decide : (0 : Int32) = (0 : Int32))).2) ?_
        refine XS.iconst X21.here hx rfl (hb hby at_343) ?_
        refine XS.goto X21.here hx rfl (pc0 := 344) (pc' := 348) rfl (hb hby at_344) (by decide) (by decide) ?_
        exact k) ?_
      obtain ⟨fs, hr, hrun, hended, hW, hsame⟩ := X21.leave (v := some (.int (nar .boolean (1 : Int32)))) (fun h => by rw [Bd.returns] at h; cases h)
      refine ⟨_, _, retN X21 hx (t := .boolean) Bd.returns (by simp) (hb hby at_348) hr, hPf _ _ ⟨hrun, hended, _, _, rfl, ?_, ⟨_, rfl⟩, hW, hsame.mono (by decide) (by decide)⟩⟩
      show own_Q_law Z p0 p1 p2 p3 p4 p5 h0 n0 _ T21.heap _
      rw [eh21]
      exact ⟨rfl, N21⟩
    · skip
      obtain ⟨a01, a08, q01, q08⟩ := own_ABb hAB0
      obtain ⟨a11, a18, q11, q18⟩ := own_ABb hAB1
      obtain ⟨ok0, S_z0⟩ := own_row own_S1 own_S0' S_dl S_dm (X := 8 * l0.toInt) (Y := 0 * mm.toInt) rfl rfl (Nat.le_trans (own_mb (A := 8) (B := 999999) (by omega) (by omega)) (by decide)) (Nat.le_trans (own_mb (A := 8) (B := 1999998) (by omega) (by omega)) (by decide))
      obtain ⟨ok1, S_z1⟩ := own_row S_wy S_vy S_dl S_dm (X := -QB1 * l0.toInt) (Y := QB1 * mm.toInt) rfl rfl (Nat.le_trans (own_mb (A := 8) (B := 999999) (by omega) (by omega)) (by decide)) (Nat.le_trans (own_mb (A := 8) (B := 1999998) (by omega) (by omega)) (by decide))
      have E0 : 8 * l0.toInt + 0 * mm.toInt = 8 * l0.toInt := by omega
      rw [E0] at S_z0
      have P0 : 0 ≤ 8 * l0.toInt := Int.mul_nonneg (by omega) (by omega)
      have M0 : (8 * l0.toInt).natAbs ≤ 8 * 1999998 := own_mb (A := 8) (B := 1999998) (by omega) (by omega)
      have ge0 := own_geS S_z0 P0
      have E1 : -QB1 * l0.toInt + QB1 * mm.toInt = QB1 * dd.toInt := by rw [v_mm, Int.neg_mul, Int.mul_add]; omega
      rw [E1] at S_z1
      have P1 : 0 ≤ QB1 * dd.toInt := Int.mul_nonneg (by omega) (by omega)
      have M1 : (QB1 * dd.toInt).natAbs ≤ 8 * 1999998 := own_mb (A := 8) (B := 1999998) (by omega) (by omega)
      have ge1 := own_geS S_z1 P1
      obtain ⟨okv, S_v⟩ := own_val S_wk2 S_wk1 S_z0 S_z1 (X := c2.toInt * (8 * l0.toInt)) (Y := c1.toInt * (QB1 * dd.toInt)) rfl rfl (Nat.le_trans (own_mb (A := 999999) b_c2 M0) (by decide)) (Nat.le_trans (own_mb (A := 999999) b_c1 M1) (by decide))
      refine own_go (A := oW p e below T17 (oF_law m 310 (oi p0) (oi p1) (oi p2) (oi p3) (oi p4) (oi p5) (oj c0) .second (oj c1) .second (oj c2) .second (oj l0) .second (oj dd) .second (oj mm) .second (oi (p5 &&& (3 : Int32))) (oi (((p5.toUInt32 >>> ((2 : Int32) &&& 31).toUInt32).toInt32) &&& (3 : Int32))) (oi ((((p5.toUInt32 >>> ((4 : Int32) &&& 31).toUInt32).toInt32) &&& (268435455 : Int32)) % (3 : Int32))) (oj s0) .second (oj s1) .second (oR pb) (oj ((((c2 * l0) * s0) * s1) + ((c1 * dd) * s0))) .second (oR b1) (oR b4) (oR b7) (oR b10) (oR b13) .unset .unset .unset [(.ref pb), (.ref b13)])) (fun t k => by
        refine XS.aload X17.here hx rfl (hb hby at_306) rfl rfl ?_
        refine XS.aload X17.here hx rfl (hb hby at_308) rfl rfl ?_
        exact k) ?_
      obtain ⟨cq22, kq22, q22a, q22b, q22c⟩ := isOf hZ rfl f17_3
      obtain ⟨_, _, ⟨T22, L22, k22, n22⟩, -, X22, ⟨Lc22, hQ22, l22, y22, z22⟩, st22⟩ := X17.virtualBack hx (y := (⟨"com/example/composure/composure/select/Simplex", "start", "([I)Z"⟩ : MethodName)) (z := (⟨"com/example/composure/composure/select/Simplex", "start", "([I)Z"⟩ : MethodName)) hown (mvT hZ ow61) (mvT hZ ow62) (notFace_of_selects (args := #[]) (mvT hZ ow64)) (mvT hZ ow64) (mvT hZ ow63) (by decide) (backOf (W := 0) (own_rm_start l Z a0 hw [] b13 pb co cc cb cs bc li ba iv i0 i1 vl el m0 m1 kco k10 k7 kcs kbc kli kba kiv ki0 ki1 kvl kel km0 km1 kpb ux vx wx uy vy wy dl dm FP.dconst1 FP.dconst0 FP.dconst1 uy (4607182418800017408 : UInt64) (0 : UInt64) wy vy (2 : Int32) (1 : Int32) [(.ref ca), (.ref cb), (.ref cc), .null, .null, .null, .null, .null, .null, .null, .null, .null, .null, .null, .null, .null] T17.heap n0 Z17 (own_ndS (ninS ne_b13_co (ninS ne_b13_cc (ninS ne_b13_cb (ninS ne_b13_cs (ninS ne_b13_bc (ninS ne_b13_li (ninS ne_b13_ba (ninS ne_b13_iv (ninS ne_b13_i0 (ninS ne_b13_i1 (ninS ne_b13_vl (ninS ne_b13_el (ninS ne_b13_m0 (ninS ne_b13_m1 (ninS (Ne.symm ne_pb_b13) nin0))))))))))))))) (own_ndS (ninS ne_co_cc (ninS ne_co_cb (ninS (own_nd nd14 (i := 0) (j := 1) rfl rfl (by decide)) (ninS (own_nd nd14 (i := 0) (j := 2) rfl rfl (by decide)) (ninS (own_nd nd14 (i := 0) (j := 3) rfl rfl (by decide)) (ninS (own_nd nd14 (i := 0) (j := 4) rfl rfl (by decide)) (ninS (own_nd nd14 (i := 0) (j := 5) rfl rfl (by decide)) (ninS (own_nd nd14 (i := 0) (j := 6) rfl rfl (by decide)) (ninS (own_nd nd14 (i := 0) (j := 7) rfl rfl (by decide)) (ninS (own_nd nd14 (i := 0) (j := 8) rfl rfl (by decide)) (ninS (own_nd nd14 (i := 0) (j := 9) rfl rfl (by decide)) (ninS (own_nd nd14 (i := 0) (j := 10) rfl rfl (by decide)) (ninS (own_nd nd14 (i := 0) (j := 11) rfl rfl (by decide)) (ninS (Ne.symm ne_pb_co) nin0)))))))))))))) (own_ndS (ninS (Ne.symm ne_cb_cc) (ninS (Ne.symm ne_cs_cc) (ninS (Ne.symm ne_bc_cc) (ninS (Ne.symm ne_li_cc) (ninS (Ne.symm ne_ba_cc) (ninS (Ne.symm ne_iv_cc) (ninS (Ne.symm ne_i0_cc) (ninS (Ne.symm ne_i1_cc) (ninS (Ne.symm ne_vl_cc) (ninS (Ne.symm ne_el_cc) (ninS (Ne.symm ne_m0_cc) (ninS (Ne.symm ne_m1_cc) (ninS (Ne.symm ne_pb_cc) nin0))))))))))))) (own_ndS (ninS (Ne.symm ne_cs_cb) (ninS (Ne.symm ne_bc_cb) (ninS (Ne.symm ne_li_cb) (ninS (Ne.symm ne_ba_cb) (ninS (Ne.symm ne_iv_cb) (ninS (Ne.symm ne_i0_cb) (ninS (Ne.symm ne_i1_cb) (ninS (Ne.symm ne_vl_cb) (ninS (Ne.symm ne_el_cb) (ninS (Ne.symm ne_m0_cb) (ninS (Ne.symm ne_m1_cb) (ninS (Ne.symm ne_pb_cb) nin0)))))))))))) (own_ndS (ninS (own_nd nd14 (i := 1) (j := 2) rfl rfl (by decide)) (ninS (own_nd nd14 (i := 1) (j := 3) rfl rfl (by decide)) (ninS (own_nd nd14 (i := 1) (j := 4) rfl rfl (by decide)) (ninS (own_nd nd14 (i := 1) (j := 5) rfl rfl (by decide)) (ninS (own_nd nd14 (i := 1) (j := 6) rfl rfl (by decide)) (ninS (own_nd nd14 (i := 1) (j := 7) rfl rfl (by decide)) (ninS (own_nd nd14 (i := 1) (j := 8) rfl rfl (by decide)) (ninS (own_nd nd14 (i := 1) (j := 9) rfl rfl (by decide)) (ninS (own_nd nd14 (i := 1) (j := 10) rfl rfl (by decide)) (ninS (own_nd nd14 (i := 1) (j := 11) rfl rfl (by decide)) (ninS (Ne.symm ne_pb_cs) nin0))))))))))) (own_ndS (ninS (own_nd nd14 (i := 2) (j := 3) rfl rfl (by decide)) (ninS (own_nd nd14 (i := 2) (j := 4) rfl rfl (by decide)) (ninS (own_nd nd14 (i := 2) (j := 5) rfl rfl (by decide)) (ninS (own_nd nd14 (i := 2) (j := 6) rfl rfl (by decide)) (ninS (own_nd nd14 (i := 2) (j := 7) rfl rfl (by decide)) (ninS (own_nd nd14 (i := 2) (j := 8) rfl rfl (by decide)) (ninS (own_nd nd14 (i := 2) (j := 9) rfl rfl (by decide)) (ninS (own_nd nd14 (i := 2) (j := 10) rfl rfl (by decide)) (ninS (own_nd nd14 (i := 2) (j := 11) rfl rfl (by decide)) (ninS (Ne.symm ne_pb_bc) nin0)))))))))) (own_ndS (ninS (own_nd nd14 (i := 3) (j := 4) rfl rfl (by decide)) (ninS (own_nd nd14 (i := 3) (j := 5) rfl rfl (by decide)) (ninS (own_nd nd14 (i := 3) (j := 6) rfl rfl (by decide)) (ninS (own_nd nd14 (i := 3) (j := 7) rfl rfl (by decide)) (ninS (own_nd nd14 (i := 3) (j := 8) rfl rfl (by decide)) (ninS (own_nd nd14 (i := 3) (j := 9) rfl rfl (by decide)) (ninS (own_nd nd14 (i := 3) (j := 10) rfl rfl (by decide)) (ninS (own_nd nd14 (i := 3) (j := 11) rfl rfl (by decide)) (ninS (Ne.symm ne_pb_li) nin0))))))))) (own_ndS (ninS (own_nd nd14 (i := 4) (j := 5) rfl rfl (by decide)) (ninS (own_nd nd14 (i := 4) (j := 6) rfl rfl (by decide)) (ninS (own_nd nd14 (i := 4) (j := 7) rfl rfl (by decide)) (ninS (own_nd nd14 (i := 4) (j := 8) rfl rfl (by decide)) (ninS (own_nd nd14 (i := 4) (j := 9) rfl rfl (by decide)) (ninS (own_nd nd14 (i := 4) (j := 10) rfl rfl (by decide)) (ninS (own_nd nd14 (i := 4) (j := 11) rfl rfl (by decide)) (ninS (Ne.symm ne_pb_ba) nin0)))))))) (own_ndS (ninS (own_nd nd14 (i := 5) (j := 6) rfl rfl (by decide)) (ninS (own_nd nd14 (i := 5) (j := 7) rfl rfl (by decide)) (ninS (own_nd nd14 (i := 5) (j := 8) rfl rfl (by decide)) (ninS (own_nd nd14 (i := 5) (j := 9) rfl rfl (by decide)) (ninS (own_nd nd14 (i := 5) (j := 10) rfl rfl (by decide)) (ninS (own_nd nd14 (i := 5) (j := 11) rfl rfl (by decide)) (ninS (Ne.symm ne_pb_iv) nin0))))))) (own_ndS (ninS (own_nd nd14 (i := 6) (j := 7) rfl rfl (by decide)) (ninS (own_nd nd14 (i := 6) (j := 8) rfl rfl (by decide)) (ninS (own_nd nd14 (i := 6) (j := 9) rfl rfl (by decide)) (ninS (own_nd nd14 (i := 6) (j := 10) rfl rfl (by decide)) (ninS (own_nd nd14 (i := 6) (j := 11) rfl rfl (by decide)) (ninS (Ne.symm ne_pb_i0) nin0)))))) (own_ndS (ninS (own_nd nd14 (i := 7) (j := 8) rfl rfl (by decide)) (ninS (own_nd nd14 (i := 7) (j := 9) rfl rfl (by decide)) (ninS (own_nd nd14 (i := 7) (j := 10) rfl rfl (by decide)) (ninS (own_nd nd14 (i := 7) (j := 11) rfl rfl (by decide)) (ninS (Ne.symm ne_pb_i1) nin0))))) (own_ndS (ninS (own_nd nd14 (i := 8) (j := 9) rfl rfl (by decide)) (ninS (own_nd nd14 (i := 8) (j := 10) rfl rfl (by decide)) (ninS (own_nd nd14 (i := 8) (j := 11) rfl rfl (by decide)) (ninS (Ne.symm ne_pb_vl) nin0)))) (own_ndS (ninS (own_nd nd14 (i := 9) (j := 10) rfl rfl (by decide)) (ninS (own_nd nd14 (i := 9) (j := 11) rfl rfl (by decide)) (ninS (Ne.symm ne_pb_el) nin0))) (own_ndS (ninS (own_nd nd14 (i := 10) (j := 11) rfl rfl (by decide)) (ninS (Ne.symm ne_pb_m0) nin0)) (own_ndS (ninS (Ne.symm ne_pb_m1) nin0) (own_ndS nin0 List.nodup_nil)))))))))))))))) hPx hPy g_ba g_bc g_el g_m0 g_m1 g_i0 g_i1 g_vl ok0 ok1 Oel (Or.inr (Or.inr ⟨rfl, rfl, rfl, rfl, rfl, rfl, rfl, rfl⟩)) ⟨by decide, by decide⟩ ⟨by decide, by decide⟩ rfl rfl ge0 ge1 f17_3 p17_0 p17_9 p17_2 p17_6 p17_7 p17_5 p17_8 f17_11 p17_10 p17_12 f17_29 f17_6 f17_12 f17_13 f17_14 f17_15 f17_7 f17_8 f17_9 f17_5 f17_10 p17_4 f17_4 f17_0) hZ ow65 ow7 (by decide) (by decide)) q22a q22c (g := (oF_law m 310 (oi p0) (oi p1) (oi p2) (oi p3) (oi p4) (oi p5) (oj c0) .second (oj c1) .second (oj c2) .second (oj l0) .second (oj dd) .second (oj mm) .second (oi (p5 &&& (3 : Int32))) (oi (((p5.toUInt32 >>> ((2 : Int32) &&& 31).toUInt32).toInt32) &&& (3 : Int32))) (oi ((((p5.toUInt32 >>> ((4 : Int32) &&& 31).toUInt32).toInt32) &&& (268435455 : Int32)) % (3 : Int32))) (oj s0) .second (oj s1) .second (oR pb) (oj ((((c2 * l0) * s0) * s1) + ((c1 * dd) * s0))) .second (oR b1) (oR b4) (oR b7) (oR b10) (oR b13) .unset .unset .unset [(.ref pb), (.ref b13)])) rfl (by rw [hml]; rfl) (Steps.refl _) (argsL := [(.ref pb)]) (rest := []) (lenOf own_pd_285bI29Z rfl) rfl (by show 2 * 0 + _ ≤ _; exact Nat.le_of_eq rfl) (hb hby at_310) (fun _ _ => ⟨rfl, rfl, (by decide : 24 + 0 ≤ _), (by decide : 119 + 0 ≤ _)⟩)
      dsimp only [Pt.U, Pt.locs, Pt.cells, Pt.slots] at X22 l22 y22 z22 st22 hQ22
      subst l22 y22 z22
      obtain ⟨rfl, N22q, K22q, p22_0, p22_1⟩ := hQ22
      have N22 := Fr.app N17 N22q
      have f22_0 : Exa Z T22.heap b13 "com/example/composure/composure/select/Simplex" := f17_3.keep K22q
      have f22_1 : Fld Z T22.heap b13 "com/example/composure/composure/select/Simplex" "rows" "I" (.int 2) := p17_0.keep K22q (ninS ne_b13_ba (ninS ne_b13_bc (ninS ne_b13_el (ninS ne_b13_m0 (ninS ne_b13_m1 (ninS ne_b13_i0 (ninS ne_b13_i1 (ninS ne_b13_vl nin0))))))))
      have f22_2 : Fld Z T22.heap b13 "com/example/composure/composure/select/Simplex" "costs" "[D" (.ref cs) := p17_3.keep K22q (ninS ne_b13_ba (ninS ne_b13_bc (ninS ne_b13_el (ninS ne_b13_m0 (ninS ne_b13_m1 (ninS ne_b13_i0 (ninS ne_b13_i1 (ninS ne_b13_vl nin0))))))))
      have f22_3 : Fld Z T22.heap b13 "com/example/composure/composure/select/Simplex" "basis" "[I" (.ref ba) := p17_6.keep K22q (ninS ne_b13_ba (ninS ne_b13_bc (ninS ne_b13_el (ninS ne_b13_m0 (ninS ne_b13_m1 (ninS ne_b13_i0 (ninS ne_b13_i1 (ninS ne_b13_vl nin0))))))))
      have f22_4 : Fld Z T22.heap b13 "com/example/composure/composure/select/Simplex" "values" "[D" (.ref vl) := p17_8.keep K22q (ninS ne_b13_ba (ninS ne_b13_bc (ninS ne_b13_el (ninS ne_b13_m0 (ninS ne_b13_m1 (ninS ne_b13_i0 (ninS ne_b13_i1 (ninS ne_b13_vl nin0))))))))
      have f22_5 : Arv Z T22.heap cs kcs .double (16 : Int32) [(.double wk0), (.double wk1), (.double wk2), (.double 0), (.double 0), (.double 0), (.double 0), (.double 0), (.double 0), (.double 0), (.double 0), (.double 0), (.double 0), (.double 0), (.double 0), (.double 0)] (.double 0) := p17_11.keep K22q (ninS (own_nd nd14 (i := 1) (j := 4) rfl rfl (by decide)) (ninS (own_nd nd14 (i := 1) (j := 2) rfl rfl (by decide)) (ninS (own_nd nd14 (i := 1) (j := 9) rfl rfl (by decide)) (ninS (own_nd nd14 (i := 1) (j := 10) rfl rfl (by decide)) (ninS (own_nd nd14 (i := 1) (j := 11) rfl rfl (by decide)) (ninS (own_nd nd14 (i := 1) (j := 6) rfl rfl (by decide)) (ninS (own_nd nd14 (i := 1) (j := 7) rfl rfl (by decide)) (ninS (own_nd nd14 (i := 1) (j := 8) rfl rfl (by decide)) nin0))))))))
      have Z22 : n0 ≤ T22.heap.size := Nat.le_trans Z17 K22q.1
      refine own_go (fun _ k => st22.trans k) ?_
      refine own_go (A := oW p e below T22 (oF_law m 317 (oi p0) (oi p1) (oi p2) (oi p3) (oi p4) (oi p5) (oj c0) .second (oj c1) .second (oj c2) .second (oj l0) .second (oj dd) .second (oj mm) .second (oi (p5 &&& (3 : Int32))) (oi (((p5.toUInt32 >>> ((2 : Int32) &&& 31).toUInt32).toInt32) &&& (3 : Int32))) (oi ((((p5.toUInt32 >>> ((4 : Int32) &&& 31).toUInt32).toInt32) &&& (268435455 : Int32)) % (3 : Int32))) (oj s0) .second (oj s1) .second (oR pb) (oj ((((c2 * l0) * s0) * s1) + ((c1 * dd) * s0))) .second (oR b1) (oR b4) (oR b7) (oR b10) (oR b13) (oi 1) .unset .unset [(.ref b13)])) (fun t k => by
        refine XS.istore X22.here hx rfl (hb hby at_313) rfl (l' := #[(oi p0), (oi p1), (oi p2), (oi p3), (oi p4), (oi p5), (oj c0), .second, (oj c1), .second, (oj c2), .second, (oj l0), .second, (oj dd), .second, (oj mm), .second, (oi (p5 &&& (3 : Int32))), (oi (((p5.toUInt32 >>> ((2 : Int32) &&& 31).toUInt32).toInt32) &&& (3 : Int32))), (oi ((((p5.toUInt32 >>> ((4 : Int32) &&& 31).toUInt32).toInt32) &&& (268435455 : Int32)) % (3 : Int32))), (oj s0), .second, (oj s1), .second, (oR pb), (oj ((((c2 * l0) * s0) * s1) + ((c1 * dd) * s0))), .second, (oR b1), (oR b4), (oR b7), (oR b10), (oR b13), (oi 1), .unset, .unset]) rfl ?_
        refine XS.aload X22.here hx rfl (hb hby at_315) rfl rfl ?_
        exact k) ?_
      obtain ⟨cq23, kq23, q23a, q23b, q23c⟩ := isOf hZ rfl f22_0
      obtain ⟨_, _, ⟨T23, L23, k23, n23⟩, -, X23, ⟨Lc23, hQ23, l23, y23, z23⟩, st23⟩ := X22.virtualBack hx (y := (⟨"com/example/composure/composure/select/Simplex", "value", "()D"⟩ : MethodName)) (z := (⟨"com/example/composure/composure/select/Simplex", "value", "()D"⟩ : MethodName)) hown (mvT hZ ow90) (mvT hZ ow91) (notFace_of_selects (args := #[]) (mvT hZ ow93)) (mvT hZ ow93) (mvT hZ ow92) (by decide) (backOf (W := 0) (own_rm_value l Z a0 hw [] b13 cs ba vl kcs kba kvl wk2 wk1 (own_tot (4607182418800017408 : UInt64) (0 : UInt64) dl dm) (own_tot wy vy dl dm) (2 : Int32) (1 : Int32) [(.double wk0), (.double wk1), (.double wk2), (.double 0), (.double 0), (.double 0), (.double 0), (.double 0), (.double 0), (.double 0), (.double 0), (.double 0), (.double 0), (.double 0), (.double 0), (.double 0)] T22.heap n0 Z22 okv ⟨by decide, by decide⟩ ⟨by decide, by decide⟩ rfl rfl f22_0 f22_1 f22_2 f22_3 f22_4 f22_5 p22_0 p22_1) hZ ow94 ow7 (by decide) (by decide)) q23a q23c (g := (oF_law m 317 (oi p0) (oi p1) (oi p2) (oi p3) (oi p4) (oi p5) (oj c0) .second (oj c1) .second (oj c2) .second (oj l0) .second (oj dd) .second (oj mm) .second (oi (p5 &&& (3 : Int32))) (oi (((p5.toUInt32 >>> ((2 : Int32) &&& 31).toUInt32).toInt32) &&& (3 : Int32))) (oi ((((p5.toUInt32 >>> ((4 : Int32) &&& 31).toUInt32).toInt32) &&& (268435455 : Int32)) % (3 : Int32))) (oj s0) .second (oj s1) .second (oR pb) (oj ((((c2 * l0) * s0) * s1) + ((c1 * dd) * s0))) .second (oR b1) (oR b4) (oR b7) (oR b10) (oR b13) (oi 1) .unset .unset [(.ref b13)])) rfl (by rw [hml]; rfl) (Steps.refl _) (argsL := []) (rest := []) (lenOf own_pd_2829D rfl) rfl (by show 2 * 0 + _ ≤ _; exact Nat.le_of_eq rfl) (hb hby at_317) (fun _ _ => ⟨rfl, rfl, (by decide : 24 + 0 ≤ _), (by decide : 119 + 0 ≤ _)⟩)
      dsimp only [Pt.U, Pt.locs, Pt.cells, Pt.slots] at X23 l23 y23 z23 st23 hQ23
      subst l23 y23 z23
      obtain ⟨rfl, N23q, eh23⟩ := hQ23
      have N23 := Fr.app N22 N23q
      refine own_go (fun _ k => st23.trans k) ?_
      refine own_go (A := oW p e below T23 (oF_law m 334 (oi p0) (oi p1) (oi p2) (oi p3) (oi p4) (oi p5) (oj c0) .second (oj c1) .second (oj c2) .second (oj l0) .second (oj dd) .second (oj mm) .second (oi (p5 &&& (3 : Int32))) (oi (((p5.toUInt32 >>> ((2 : Int32) &&& 31).toUInt32).toInt32) &&& (3 : Int32))) (oi ((((p5.toUInt32 >>> ((4 : Int32) &&& 31).toUInt32).toInt32) &&& (268435455 : Int32)) % (3 : Int32))) (oj s0) .second (oj s1) .second (oR pb) (oj ((((c2 * l0) * s0) * s1) + ((c1 * dd) * s0))) .second (oR b1) (oR b4) (oR b7) (oR b10) (oR b13) (oi 1) (od (own_tot wk2 wk1 (own_tot (4607182418800017408 : UInt64) (0 : UInt64) dl dm) (own_tot wy vy dl dm))) .second [(.long (s0 * s1)), (.double (own_tot wk2 wk1 (own_tot (4607182418800017408 : UInt64) (0 : UInt64) dl dm) (own_tot wy vy dl dm)))])) (fun t k => by
        refine XS.dstore X23.here hx rfl (hb hby at_320) rfl (l' := #[(oi p0), (oi p1), (oi p2), (oi p3), (oi p4), (oi p5), (oj c0), .second, (oj c1), .second, (oj c2), .second, (oj l0), .second, (oj dd), .second, (oj mm), .second, (oi (p5 &&& (3 : Int32))), (oi (((p5.toUInt32 >>> ((2 : Int32) &&& 31).toUInt32).toInt32) &&& (3 : Int32))), (oi ((((p5.toUInt32 >>> ((4 : Int32) &&& 31).toUInt32).toInt32) &&& (268435455 : Int32)) % (3 : Int32))), (oj s0), .second, (oj s1), .second, (oR pb), (oj ((((c2 * l0) * s0) * s1) + ((c1 * dd) * s0))), .second, (oR b1), (oR b4), (oR b7), (oR b10), (oR b13), (oi 1), (od (own_tot wk2 wk1 (own_tot (4607182418800017408 : UInt64) (0 : UInt64) dl dm) (own_tot wy vy dl dm))), .second]) rfl ?_
        refine XS.iload X23.here hx rfl (hb hby at_322) rfl ?_
        refine XS.ifNo X23.here hx rfl (hb hby at_324) rfl ((if0 _ _).trans (feq (by decide : ¬ ((1 : Int32) = (0 : Int32)))).1) ?_
        refine XS.dload X23.here hx rfl (hb hby at_327) rfl ?_
        refine XS.lload X23.here hx rfl (hb hby at_329) rfl ?_
        refine XS.lload X23.here hx rfl (hb hby at_331) rfl ?_
        refine XS.lmul X23.here hx rfl (hb hby at_333) rfl ?_
        exact k) ?_
      have x0 : s0.toInt.natAbs ≤ 8 := by rw [eA0]; omega
      have x1 : s1.toInt.natAbs ≤ 8 := by rw [eA1]; omega
      have t1 : (c2.toInt * l0.toInt).natAbs ≤ 999999 * 1999998 := own_mb b_c2 (by omega)
      have t2 : (c1.toInt * dd.toInt).natAbs ≤ 999999 * 1999998 := own_mb b_c1 (by omega)
      have vp : (s0 * s1).toInt = QA0 * QA1 := own_m2 (A := 8) (B := 8) eA0 eA1 (by omega) (by omega) (by decide)
      have y1 : ((c2 * l0) * s0).toInt = c2.toInt * l0.toInt * QA0 := own_i3 (A := 999999) (B := 1999998) (D := 8) rfl rfl eA0 b_c2 (by omega) (by omega) (by decide) (by decide)
      have y2 : (c2.toInt * l0.toInt * QA0).natAbs ≤ 999999 * 1999998 * 8 := own_mb t1 (by omega)
      have y3 : (((c2 * l0) * s0) * s1).toInt = c2.toInt * l0.toInt * QA0 * QA1 := own_m2 (A := 999999 * 1999998 * 8) (B := 8) y1 eA1 y2 (by omega) (by decide)
      have vx_ : ((((c2 * l0) * s0) * s1) + ((c1 * dd) * s0)).toInt = (c2.toInt * l0.toInt) * QA0 * QA1 + (c1.toInt * dd.toInt) * QA0 := own_i2 y3 (own_i3 (A := 999999) (B := 1999998) (D := 8) rfl rfl eA0 b_c1 (by omega) (by omega) (by decide) (by decide)) (Nat.le_trans (own_mb (B := 8) y2 (by omega)) (by decide)) (Nat.le_trans (own_mb (B := 8) t2 (by omega)) (by decide))
      have fin : (c2.toInt * (8 * l0.toInt) + c1.toInt * (QB1 * dd.toInt)) * (QA0 * QA1) = 8 * ((c2.toInt * l0.toInt) * QA0 * QA1 + (c1.toInt * dd.toInt) * QA0) ∧ ((c2.toInt * l0.toInt) * QA0 * QA1 + (c1.toInt * dd.toInt) * QA0).natAbs < 9007199254740992 ∧ ((c2.toInt * (8 * l0.toInt) + c1.toInt * (QB1 * dd.toInt)) * (QA0 * QA1)).natAbs < 9007199254740992 := own_arith2 hAB0 hAB1 t1 t2
      obtain ⟨dp, h_dp⟩ : ∃ z, FP.l2d (s0 * s1) = z := ⟨_, rfl⟩
      have S_dp : own_S dp (QA0 * QA1 * 2 ^ 1074) := by rw [← h_dp]; exact own_l2dS vp (Nat.lt_of_le_of_lt (own_mb (A := 8) (B := 8) (by omega) (by omega)) (by decide))
      have nf : Jvm.Free.Fl.NoNaN64 (FP.dmul (own_tot wk2 wk1 (own_tot (4607182418800017408 : UInt64) (0 : UInt64) dl dm) (own_tot wy vy dl dm)) dp) := own_Snn (own_mulS S_v S_dp (k := 3) fin.2.2 (by decide) (own_u _ _ _ _ _ own_pp))
      obtain ⟨dx, h_dx⟩ : ∃ z, FP.l2d ((((c2 * l0) * s0) * s1) + ((c1 * dd) * s0)) = z := ⟨_, rfl⟩
      have S_dx : own_S dx (((c2.toInt * l0.toInt) * QA0 * QA1 + (c1.toInt * dd.toInt) * QA0) * 2 ^ 1074) := by rw [← h_dx]; exact own_l2dS vx_ fin.2.1
      obtain ⟨-, cf⟩ := own_end S_v S_dp S_dx fin.2.2 fin.1
      refine own_go (A := oW p e below T23 (oF_law m 348 (oi p0) (oi p1) (oi p2) (oi p3) (oi p4) (oi p5) (oj c0) .second (oj c1) .second (oj c2) .second (oj l0) .second (oj dd) .second (oj mm) .second (oi (p5 &&& (3 : Int32))) (oi (((p5.toUInt32 >>> ((2 : Int32) &&& 31).toUInt32).toInt32) &&& (3 : Int32))) (oi ((((p5.toUInt32 >>> ((4 : Int32) &&& 31).toUInt32).toInt32) &&& (268435455 : Int32)) % (3 : Int32))) (oj s0) .second (oj s1) .second (oR pb) (oj ((((c2 * l0) * s0) * s1) + ((c1 * dd) * s0))) .second (oR b1) (oR b4) (oR b7) (oR b10) (oR b13) (oi 1) (od (own_tot wk2 wk1 (own_tot (4607182418800017408 : UInt64) (0 : UInt64) dl dm) (own_tot wy vy dl dm))) .second [(.int 1)])) (fun t k => by
        refine XS.l2dS X23.here hx rfl (hb hby at_334) rfl h_dp ?_
        refine XS.dmulS X23.here hx rfl (hb hby at_335) rfl nf rfl ?_
        refine XS.lload X23.here hx rfl (hb hby at_336) rfl ?_
        refine XS.l2dS X23.here hx rfl (hb hby at_338) rfl h_dx ?_
        refine XS.dcmpS X23.here hx rfl (hb hby at_339) rfl cf ?_
        refine XS.ifNo X23.here hx rfl (hb hby at_340) rfl ((if0 _ _).trans (teq (by decide : (0 : Int32) = (0 : Int32))).2) ?_
        refine XS.iconst X23.here hx rfl (hb hby at_343) ?_
        refine XS.goto X23.here hx rfl (pc0 := 344) (pc' := 348) rfl (hb hby at_344) (by decide) (by decide) ?_
        exact k) ?_
      obtain ⟨fs, hr, hrun, hended, hW, hsame⟩ := X23.leave (v := some (.int (nar .boolean (1 : Int32)))) (fun h => by rw [Bd.returns] at h; cases h)
      refine ⟨_, _, retN X23 hx (t := .boolean) Bd.returns (by simp) (hb hby at_348) hr, hPf _ _ ⟨hrun, hended, _, _, rfl, ?_, ⟨_, rfl⟩, hW, hsame.mono (by decide) (by decide)⟩⟩
      show own_Q_law Z p0 p1 p2 p3 p4 p5 h0 n0 _ T23.heap _
      rw [eh23]
      exact ⟨rfl, N23⟩
  refine own_go (A := oW p e below s₁ (oF_law m 88 (oi p0) (oi p1) (oi p2) (oi p3) (oi p4) (oi p5) (oj c0) .second (oj c1) .second (oj c2) .second (oj l0) .second (oj dd) .second (oj mm) .second (oi (p5 &&& (3 : Int32))) (oi (((p5.toUInt32 >>> ((2 : Int32) &&& 31).toUInt32).toInt32) &&& (3 : Int32))) (oi ((((p5.toUInt32 >>> ((4 : Int32) &&& 31).toUInt32).toInt32) &&& (268435455 : Int32)) % (3 : Int32))) (oj s0) .second (oj s1) .second .unset .unset .unset .unset .unset .unset .unset .unset .unset .unset .unset [(.int ((((p5.toUInt32 >>> ((4 : Int32) &&& 31).toUInt32).toInt32) &&& (268435455 : Int32)) % (3 : Int32)))])) (fun t k => by
    refine XS.iload X0.here hx rfl (hb hby at_86) rfl ?_
    exact k) ?_
  by_cases hc88_24 : ((((p5.toUInt32 >>> ((4 : Int32) &&& 31).toUInt32).toInt32) &&& (268435455 : Int32)) % (3 : Int32)) = (0 : Int32)
  · skip
    refine own_go (A := oW p e below s₁ (oF_law m 92 (oi p0) (oi p1) (oi p2) (oi p3) (oi p4) (oi p5) (oj c0) .second (oj c1) .second (oj c2) .second (oj l0) .second (oj dd) .second (oj mm) .second (oi (p5 &&& (3 : Int32))) (oi (((p5.toUInt32 >>> ((2 : Int32) &&& 31).toUInt32).toInt32) &&& (3 : Int32))) (oi ((((p5.toUInt32 >>> ((4 : Int32) &&& 31).toUInt32).toInt32) &&& (268435455 : Int32)) % (3 : Int32))) (oj s0) .second (oj s1) .second .unset .unset .unset .unset .unset .unset .unset .unset .unset .unset .unset [(.int 2)])) (fun t k => by
      refine XS.ifNo X0.here hx rfl (hb hby at_88) rfl ((if0 _ _).trans (teq hc88_24).2) ?_
      refine XS.iconst X0.here hx rfl (hb hby at_91) ?_
      exact k) ?_
    obtain ⟨T25, h25, k25, X25, e25, E25, A25, Q25, st25⟩ := newPE X0 hx hZ (aty := .int) ow3 e0 (g := (oF_law m 92 (oi p0) (oi p1) (oi p2) (oi p3) (oi p4) (oi p5) (oj c0) .second (oj c1) .second (oj c2) .second (oj l0) .second (oj dd) .second (oj mm) .second (oi (p5 &&& (3 : Int32))) (oi (((p5.toUInt32 >>> ((2 : Int32) &&& 31).toUInt32).toInt32) &&& (3 : Int32))) (oi ((((p5.toUInt32 >>> ((4 : Int32) &&& 31).toUInt32).toInt32) &&& (268435455 : Int32)) % (3 : Int32))) (oj s0) .second (oj s1) .second .unset .unset .unset .unset .unset .unset .unset .unset .unset .unset .unset [(.int 2)])) rfl (hb hby at_92) rfl (by decide) (cap := 2) (by decide) (by decide) (by decide) (by decide) (ad := "[I") (by decide)
    obtain ⟨b25, g25⟩ : ∃ z, z = h0.size := ⟨_, rfl⟩
    rw [← g25] at A25 Q25 st25
    refine own_go st25 ?_
    have g_b25 : n0 ≤ b25 := Nat.le_trans Z0 (Nat.le_of_eq g25.symm)
    have Z25 : n0 ≤ h25.size := Nat.le_trans Z0 E25.1
    have U25 : Arv Z h25 b25 k25 .int (2 : Int32) [] (.int 0) := Arv.new A25 (by decide)
    have V25 : Arv Z h25 b25 k25 .int (2 : Int32) [(.int 0), (.int 0)] (.int 0) := U25.pad (pad_rep [] (.int 0) 2)
    refine own_go (A := oW p e below T25 (oF_law m 97 (oi p0) (oi p1) (oi p2) (oi p3) (oi p4) (oi p5) (oj c0) .second (oj c1) .second (oj c2) .second (oj l0) .second (oj dd) .second (oj mm) .second (oi (p5 &&& (3 : Int32))) (oi (((p5.toUInt32 >>> ((2 : Int32) &&& 31).toUInt32).toInt32) &&& (3 : Int32))) (oi ((((p5.toUInt32 >>> ((4 : Int32) &&& 31).toUInt32).toInt32) &&& (268435455 : Int32)) % (3 : Int32))) (oj s0) .second (oj s1) .second .unset .unset .unset .unset .unset .unset .unset .unset .unset .unset .unset [(.int 0), (.int 0), (.ref b25), (.ref b25)])) (fun t k => by
      refine XS.dup X25.here hx rfl (hb hby at_94) rfl rfl ?_
      refine XS.iconst X25.here hx rfl (hb hby at_95) ?_
      refine XS.iconst X25.here hx rfl (hb hby at_96) ?_
      exact k) ?_
    obtain ⟨cl26, Ar26, q26, S26, N26, H26, G26⟩ := id (V25)
    have hi26 : ¬ ((0 : Int32) < 0 ∨ cl26.slots.size ≤ ((0 : Int32)).toNatClampNeg) := inb_of S26 ⟨by decide, by decide⟩
    obtain ⟨T27, h27, X27, e27, W27, st27⟩ := stI X25 hx hZ e25 Ar26 (j := (0 : Int32)) hi26 (g := (oF_law m 97 (oi p0) (oi p1) (oi p2) (oi p3) (oi p4) (oi p5) (oj c0) .second (oj c1) .second (oj c2) .second (oj l0) .second (oj dd) .second (oj mm) .second (oi (p5 &&& (3 : Int32))) (oi (((p5.toUInt32 >>> ((2 : Int32) &&& 31).toUInt32).toInt32) &&& (3 : Int32))) (oi ((((p5.toUInt32 >>> ((4 : Int32) &&& 31).toUInt32).toInt32) &&& (268435455 : Int32)) % (3 : Int32))) (oj s0) .second (oj s1) .second .unset .unset .unset .unset .unset .unset .unset .unset .unset .unset .unset [(.int 0), (.int 0), (.ref b25), (.ref b25)])) rfl rfl (hb hby at_97)
    refine own_go st27 ?_
    have V27 : Arv Z h27 b25 k25 .int (2 : Int32) [(.int 0), (.int 0)] (.int 0) := Arv.set Ar26 q26 S26 N26 H26 G26 rfl W27 0 rfl (Nat.le_of_ble_eq_true rfl)
    have f27_0 : Arv Z h27 b25 k25 .int (2 : Int32) [(.int 0), (.int 0)] (.int 0) := V27
    have f27_1 : Exa Z h27 b25 "[I" := Q25.wr W27
    have N27 := Fr.snoc X27 N0 g_b25
    have Z27 : n0 ≤ h27.size := Nat.le_trans Z25 (Keep.of_wr W27).1
    refine own_go (A := oW p e below T27 (oF_law m 101 (oi p0) (oi p1) (oi p2) (oi p3) (oi p4) (oi p5) (oj c0) .second (oj c1) .second (oj c2) .second (oj l0) .second (oj dd) .second (oj mm) .second (oi (p5 &&& (3 : Int32))) (oi (((p5.toUInt32 >>> ((2 : Int32) &&& 31).toUInt32).toInt32) &&& (3 : Int32))) (oi ((((p5.toUInt32 >>> ((4 : Int32) &&& 31).toUInt32).toInt32) &&& (268435455 : Int32)) % (3 : Int32))) (oj s0) .second (oj s1) .second .unset .unset .unset .unset .unset .unset .unset .unset .unset .unset .unset [(.int 1), (.int 1), (.ref b25), (.ref b25)])) (fun t k => by
      refine XS.dup X27.here hx rfl (hb hby at_98) rfl rfl ?_
      refine XS.iconst X27.here hx rfl (hb hby at_99) ?_
      refine XS.iconst X27.here hx rfl (hb hby at_100) ?_
      exact k) ?_
    obtain ⟨cl28, Ar28, q28, S28, N28, H28, G28⟩ := id (f27_0)
    have hi28 : ¬ ((1 : Int32) < 0 ∨ cl28.slots.size ≤ ((1 : Int32)).toNatClampNeg) := inb_of S28 ⟨by decide, by decide⟩
    obtain ⟨T29, h29, X29, e29, W29, st29⟩ := stI X27 hx hZ e27 Ar28 (j := (1 : Int32)) hi28 (g := (oF_law m 101 (oi p0) (oi p1) (oi p2) (oi p3) (oi p4) (oi p5) (oj c0) .second (oj c1) .second (oj c2) .second (oj l0) .second (oj dd) .second (oj mm) .second (oi (p5 &&& (3 : Int32))) (oi (((p5.toUInt32 >>> ((2 : Int32) &&& 31).toUInt32).toInt32) &&& (3 : Int32))) (oi ((((p5.toUInt32 >>> ((4 : Int32) &&& 31).toUInt32).toInt32) &&& (268435455 : Int32)) % (3 : Int32))) (oj s0) .second (oj s1) .second .unset .unset .unset .unset .unset .unset .unset .unset .unset .unset .unset [(.int 1), (.int 1), (.ref b25), (.ref b25)])) rfl rfl (hb hby at_101)
    refine own_go st29 ?_
    have V29 : Arv Z h29 b25 k25 .int (2 : Int32) [(.int 0), (.int 1)] (.int 0) := Arv.set Ar28 q28 S28 N28 H28 G28 rfl W29 1 rfl (Nat.le_of_ble_eq_true rfl)
    have f29_0 : Arv Z h29 b25 k25 .int (2 : Int32) [(.int 0), (.int 1)] (.int 0) := V29
    have f29_1 : Exa Z h29 b25 "[I" := f27_1.wr W29
    have N29 := Fr.snoc X29 N27 g_b25
    have Z29 : n0 ≤ h29.size := Nat.le_trans Z27 (Keep.of_wr W29).1
    refine own_go (A := oW p e below T29 (oF_law m 202 (oi p0) (oi p1) (oi p2) (oi p3) (oi p4) (oi p5) (oj c0) .second (oj c1) .second (oj c2) .second (oj l0) .second (oj dd) .second (oj mm) .second (oi (p5 &&& (3 : Int32))) (oi (((p5.toUInt32 >>> ((2 : Int32) &&& 31).toUInt32).toInt32) &&& (3 : Int32))) (oi ((((p5.toUInt32 >>> ((4 : Int32) &&& 31).toUInt32).toInt32) &&& (268435455 : Int32)) % (3 : Int32))) (oj s0) .second (oj s1) .second (oR b25) (oj (((c0 * l0) * s1) + ((c1 * mm) * s0))) .second .unset .unset .unset .unset .unset .unset .unset .unset [])) (fun t k => by
      refine XS.astore X29.here hx rfl (hb hby at_102) rfl rfl (l' := #[(oi p0), (oi p1), (oi p2), (oi p3), (oi p4), (oi p5), (oj c0), .second, (oj c1), .second, (oj c2), .second, (oj l0), .second, (oj dd), .second, (oj mm), .second, (oi (p5 &&& (3 : Int32))), (oi (((p5.toUInt32 >>> ((2 : Int32) &&& 31).toUInt32).toInt32) &&& (3 : Int32))), (oi ((((p5.toUInt32 >>> ((4 : Int32) &&& 31).toUInt32).toInt32) &&& (268435455 : Int32)) % (3 : Int32))), (oj s0), .second, (oj s1), .second, (oR b25), .unset, .unset, .unset, .unset, .unset, .unset, .unset, .unset, .unset, .unset]) rfl ?_
      show oW p e below T29 (oF_law m 104 (oi p0) (oi p1) (oi p2) (oi p3) (oi p4) (oi p5) (oj c0) .second (oj c1) .second (oj c2) .second (oj l0) .second (oj dd) .second (oj mm) .second (oi (p5 &&& (3 : Int32))) (oi (((p5.toUInt32 >>> ((2 : Int32) &&& 31).toUInt32).toInt32) &&& (3 : Int32))) (oi ((((p5.toUInt32 >>> ((4 : Int32) &&& 31).toUInt32).toInt32) &&& (268435455 : Int32)) % (3 : Int32))) (oj s0) .second (oj s1) .second (oR b25) .unset .unset .unset .unset .unset .unset .unset .unset .unset .unset []) _
      refine XS.lload X29.here hx rfl (hb hby at_104) rfl ?_
      refine XS.lload X29.here hx rfl (hb hby at_106) rfl ?_
      refine XS.lmul X29.here hx rfl (hb hby at_108) rfl ?_
      refine XS.lload X29.here hx rfl (hb hby at_109) rfl ?_
      refine XS.lmul X29.here hx rfl (hb hby at_111) rfl ?_
      refine XS.lload X29.here hx rfl (hb hby at_112) rfl ?_
      refine XS.lload X29.here hx rfl (hb hby at_114) rfl ?_
      refine XS.lmul X29.here hx rfl (hb hby at_116) rfl ?_
      refine XS.lload X29.here hx rfl (hb hby at_117) rfl ?_
      show oW p e below T29 (oF_law m 119 (oi p0) (oi p1) (oi p2) (oi p3) (oi p4) (oi p5) (oj c0) .second (oj c1) .second (oj c2) .second (oj l0) .second (oj dd) .second (oj mm) .second (oi (p5 &&& (3 : Int32))) (oi (((p5.toUInt32 >>> ((2 : Int32) &&& 31).toUInt32).toInt32) &&& (3 : Int32))) (oi ((((p5.toUInt32 >>> ((4 : Int32) &&& 31).toUInt32).toInt32) &&& (268435455 : Int32)) % (3 : Int32))) (oj s0) .second (oj s1) .second (oR b25) .unset .unset .unset .unset .unset .unset .unset .unset .unset .unset [(.long s0), (.long (c1 * mm)), (.long ((c0 * l0) * s1))]) _
      refine XS.lmul X29.here hx rfl (hb hby at_119) rfl ?_
      refine XS.ladd X29.here hx rfl (hb hby at_120) rfl ?_
      refine XS.lstore X29.here hx rfl (hb hby at_121) rfl (l' := #[(oi p0), (oi p1), (oi p2), (oi p3), (oi p4), (oi p5), (oj c0), .second, (oj c1), .second, (oj c2), .second, (oj l0), .second, (oj dd), .second, (oj mm), .second, (oi (p5 &&& (3 : Int32))), (oi (((p5.toUInt32 >>> ((2 : Int32) &&& 31).toUInt32).toInt32) &&& (3 : Int32))), (oi ((((p5.toUInt32 >>> ((4 : Int32) &&& 31).toUInt32).toInt32) &&& (268435455 : Int32)) % (3 : Int32))), (oj s0), .second, (oj s1), .second, (oR b25), (oj (((c0 * l0) * s1) + ((c1 * mm) * s0))), .second, .unset, .unset, .unset, .unset, .unset, .unset, .unset, .unset]) rfl ?_
      refine XS.goto X29.here hx rfl (pc0 := 123) (pc' := 202) rfl (hb hby at_123) (by decide) (by decide) ?_
      exact k) ?_
    exact seg _ _ _ b25 k25 (0 : Int32) (1 : Int32) (((c0 * l0) * s1) + ((c1 * mm) * s0)) X29 e29 N29 Z29 g_b25 f29_0 (Or.inl ⟨rfl, rfl, rfl⟩)
  · skip
    refine own_go (A := oW p e below s₁ (oF_law m 129 (oi p0) (oi p1) (oi p2) (oi p3) (oi p4) (oi p5) (oj c0) .second (oj c1) .second (oj c2) .second (oj l0) .second (oj dd) .second (oj mm) .second (oi (p5 &&& (3 : Int32))) (oi (((p5.toUInt32 >>> ((2 : Int32) &&& 31).toUInt32).toInt32) &&& (3 : Int32))) (oi ((((p5.toUInt32 >>> ((4 : Int32) &&& 31).toUInt32).toInt32) &&& (268435455 : Int32)) % (3 : Int32))) (oj s0) .second (oj s1) .second .unset .unset .unset .unset .unset .unset .unset .unset .unset .unset .unset [(.int 1), (.int ((((p5.toUInt32 >>> ((4 : Int32) &&& 31).toUInt32).toInt32) &&& (268435455 : Int32)) % (3 : Int32)))])) (fun t k => by
      refine XS.ifYes X0.here hx rfl (pc0 := 88) (pc' := 126) rfl (hb hby at_88) rfl ((if0 _ _).trans (feq hc88_24).2) (by decide) (by decide) ?_
      refine XS.iload X0.here hx rfl (hb hby at_126) rfl ?_
      refine XS.iconst X0.here hx rfl (hb hby at_128) ?_
      exact k) ?_
    by_cases hc129_30 : ((((p5.toUInt32 >>> ((4 : Int32) &&& 31).toUInt32).toInt32) &&& (268435455 : Int32)) % (3 : Int32)) = (1 : Int32)
    · skip
      refine own_go (A := oW p e below s₁ (oF_law m 133 (oi p0) (oi p1) (oi p2) (oi p3) (oi p4) (oi p5) (oj c0) .second (oj c1) .second (oj c2) .second (oj l0) .second (oj dd) .second (oj mm) .second (oi (p5 &&& (3 : Int32))) (oi (((p5.toUInt32 >>> ((2 : Int32) &&& 31).toUInt32).toInt32) &&& (3 : Int32))) (oi ((((p5.toUInt32 >>> ((4 : Int32) &&& 31).toUInt32).toInt32) &&& (268435455 : Int32)) % (3 : Int32))) (oj s0) .second (oj s1) .second .unset .unset .unset .unset .unset .unset .unset .unset .unset .unset .unset [(.int 2)])) (fun t k => by
        refine XS.icmpNo X0.here hx rfl (hb hby at_129) rfl (teq hc129_30).2 ?_
        refine XS.iconst X0.here hx rfl (hb hby at_132) ?_
        exact k) ?_
      obtain ⟨T31, h31, k31, X31, e31, E31, A31, Q31, st31⟩ := newPE X0 hx hZ (aty := .int) ow3 e0 (g := (oF_law m 133 (oi p0) (oi p1) (oi p2) (oi p3) (oi p4) (oi p5) (oj c0) .second (oj c1) .second (oj c2) .second (oj l0) .second (oj dd) .second (oj mm) .second (oi (p5 &&& (3 : Int32))) (oi (((p5.toUInt32 >>> ((2 : Int32) &&& 31).toUInt32).toInt32) &&& (3 : Int32))) (oi ((((p5.toUInt32 >>> ((4 : Int32) &&& 31).toUInt32).toInt32) &&& (268435455 : Int32)) % (3 : Int32))) (oj s0) .second (oj s1) .second .unset .unset .unset .unset .unset .unset .unset .unset .unset .unset .unset [(.int 2)])) rfl (hb hby at_133) rfl (by decide) (cap := 2) (by decide) (by decide) (by decide) (by decide) (ad := "[I") (by decide)
      obtain ⟨b31, g31⟩ : ∃ z, z = h0.size := ⟨_, rfl⟩
      rw [← g31] at A31 Q31 st31
      refine own_go st31 ?_
      have g_b31 : n0 ≤ b31 := Nat.le_trans Z0 (Nat.le_of_eq g31.symm)
      have Z31 : n0 ≤ h31.size := Nat.le_trans Z0 E31.1
      have U31 : Arv Z h31 b31 k31 .int (2 : Int32) [] (.int 0) := Arv.new A31 (by decide)
      have V31 : Arv Z h31 b31 k31 .int (2 : Int32) [(.int 0), (.int 0)] (.int 0) := U31.pad (pad_rep [] (.int 0) 2)
      refine own_go (A := oW p e below T31 (oF_law m 138 (oi p0) (oi p1) (oi p2) (oi p3) (oi p4) (oi p5) (oj c0) .second (oj c1) .second (oj c2) .second (oj l0) .second (oj dd) .second (oj mm) .second (oi (p5 &&& (3 : Int32))) (oi (((p5.toUInt32 >>> ((2 : Int32) &&& 31).toUInt32).toInt32) &&& (3 : Int32))) (oi ((((p5.toUInt32 >>> ((4 : Int32) &&& 31).toUInt32).toInt32) &&& (268435455 : Int32)) % (3 : Int32))) (oj s0) .second (oj s1) .second .unset .unset .unset .unset .unset .unset .unset .unset .unset .unset .unset [(.int 1), (.int 0), (.ref b31), (.ref b31)])) (fun t k => by
        refine XS.dup X31.here hx rfl (hb hby at_135) rfl rfl ?_
        refine XS.iconst X31.here hx rfl (hb hby at_136) ?_
        refine XS.iconst X31.here hx rfl (hb hby at_137) ?_
        exact k) ?_
      obtain ⟨cl32, Ar32, q32, S32, N32, H32, G32⟩ := id (V31)
      have hi32 : ¬ ((0 : Int32) < 0 ∨ cl32.slots.size ≤ ((0 : Int32)).toNatClampNeg) := inb_of S32 ⟨by decide, by decide⟩
      obtain ⟨T33, h33, X33, e33, W33, st33⟩ := stI X31 hx hZ e31 Ar32 (j := (0 : Int32)) hi32 (g := (oF_law m 138 (oi p0) (oi p1) (oi p2) (oi p3) (oi p4) (oi p5) (oj c0) .second (oj c1) .second (oj c2) .second (oj l0) .second (oj dd) .second (oj mm) .second (oi (p5 &&& (3 : Int32))) (oi (((p5.toUInt32 >>> ((2 : Int32) &&& 31).toUInt32).toInt32) &&& (3 : Int32))) (oi ((((p5.toUInt32 >>> ((4 : Int32) &&& 31).toUInt32).toInt32) &&& (268435455 : Int32)) % (3 : Int32))) (oj s0) .second (oj s1) .second .unset .unset .unset .unset .unset .unset .unset .unset .unset .unset .unset [(.int 1), (.int 0), (.ref b31), (.ref b31)])) rfl rfl (hb hby at_138)
      refine own_go st33 ?_
      have V33 : Arv Z h33 b31 k31 .int (2 : Int32) [(.int 1), (.int 0)] (.int 0) := Arv.set Ar32 q32 S32 N32 H32 G32 rfl W33 0 rfl (Nat.le_of_ble_eq_true rfl)
      have f33_0 : Arv Z h33 b31 k31 .int (2 : Int32) [(.int 1), (.int 0)] (.int 0) := V33
      have f33_1 : Exa Z h33 b31 "[I" := Q31.wr W33
      have N33 := Fr.snoc X33 N0 g_b31
      have Z33 : n0 ≤ h33.size := Nat.le_trans Z31 (Keep.of_wr W33).1
      refine own_go (A := oW p e below T33 (oF_law m 142 (oi p0) (oi p1) (oi p2) (oi p3) (oi p4) (oi p5) (oj c0) .second (oj c1) .second (oj c2) .second (oj l0) .second (oj dd) .second (oj mm) .second (oi (p5 &&& (3 : Int32))) (oi (((p5.toUInt32 >>> ((2 : Int32) &&& 31).toUInt32).toInt32) &&& (3 : Int32))) (oi ((((p5.toUInt32 >>> ((4 : Int32) &&& 31).toUInt32).toInt32) &&& (268435455 : Int32)) % (3 : Int32))) (oj s0) .second (oj s1) .second .unset .unset .unset .unset .unset .unset .unset .unset .unset .unset .unset [(.int 0), (.int 1), (.ref b31), (.ref b31)])) (fun t k => by
        refine XS.dup X33.here hx rfl (hb hby at_139) rfl rfl ?_
        refine XS.iconst X33.here hx rfl (hb hby at_140) ?_
        refine XS.iconst X33.here hx rfl (hb hby at_141) ?_
        exact k) ?_
      obtain ⟨cl34, Ar34, q34, S34, N34, H34, G34⟩ := id (f33_0)
      have hi34 : ¬ ((1 : Int32) < 0 ∨ cl34.slots.size ≤ ((1 : Int32)).toNatClampNeg) := inb_of S34 ⟨by decide, by decide⟩
      obtain ⟨T35, h35, X35, e35, W35, st35⟩ := stI X33 hx hZ e33 Ar34 (j := (1 : Int32)) hi34 (g := (oF_law m 142 (oi p0) (oi p1) (oi p2) (oi p3) (oi p4) (oi p5) (oj c0) .second (oj c1) .second (oj c2) .second (oj l0) .second (oj dd) .second (oj mm) .second (oi (p5 &&& (3 : Int32))) (oi (((p5.toUInt32 >>> ((2 : Int32) &&& 31).toUInt32).toInt32) &&& (3 : Int32))) (oi ((((p5.toUInt32 >>> ((4 : Int32) &&& 31).toUInt32).toInt32) &&& (268435455 : Int32)) % (3 : Int32))) (oj s0) .second (oj s1) .second .unset .unset .unset .unset .unset .unset .unset .unset .unset .unset .unset [(.int 0), (.int 1), (.ref b31), (.ref b31)])) rfl rfl (hb hby at_142)
      refine own_go st35 ?_
      have V35 : Arv Z h35 b31 k31 .int (2 : Int32) [(.int 1), (.int 0)] (.int 0) := Arv.set Ar34 q34 S34 N34 H34 G34 rfl W35 1 rfl (Nat.le_of_ble_eq_true rfl)
      have f35_0 : Arv Z h35 b31 k31 .int (2 : Int32) [(.int 1), (.int 0)] (.int 0) := V35
      have f35_1 : Exa Z h35 b31 "[I" := f33_1.wr W35
      have N35 := Fr.snoc X35 N33 g_b31
      have Z35 : n0 ≤ h35.size := Nat.le_trans Z33 (Keep.of_wr W35).1
      refine own_go (A := oW p e below T35 (oF_law m 202 (oi p0) (oi p1) (oi p2) (oi p3) (oi p4) (oi p5) (oj c0) .second (oj c1) .second (oj c2) .second (oj l0) .second (oj dd) .second (oj mm) .second (oi (p5 &&& (3 : Int32))) (oi (((p5.toUInt32 >>> ((2 : Int32) &&& 31).toUInt32).toInt32) &&& (3 : Int32))) (oi ((((p5.toUInt32 >>> ((4 : Int32) &&& 31).toUInt32).toInt32) &&& (268435455 : Int32)) % (3 : Int32))) (oj s0) .second (oj s1) .second (oR b31) (oj (((c0 * l0) * s1) + ((c1 * mm) * s0))) .second .unset .unset .unset .unset .unset .unset .unset .unset [])) (fun t k => by
        refine XS.astore X35.here hx rfl (hb hby at_143) rfl rfl (l' := #[(oi p0), (oi p1), (oi p2), (oi p3), (oi p4), (oi p5), (oj c0), .second, (oj c1), .second, (oj c2), .second, (oj l0), .second, (oj dd), .second, (oj mm), .second, (oi (p5 &&& (3 : Int32))), (oi (((p5.toUInt32 >>> ((2 : Int32) &&& 31).toUInt32).toInt32) &&& (3 : Int32))), (oi ((((p5.toUInt32 >>> ((4 : Int32) &&& 31).toUInt32).toInt32) &&& (268435455 : Int32)) % (3 : Int32))), (oj s0), .second, (oj s1), .second, (oR b31), .unset, .unset, .unset, .unset, .unset, .unset, .unset, .unset, .unset, .unset]) rfl ?_
        refine XS.lload X35.here hx rfl (hb hby at_145) rfl ?_
        refine XS.lload X35.here hx rfl (hb hby at_147) rfl ?_
        show oW p e below T35 (oF_law m 149 (oi p0) (oi p1) (oi p2) (oi p3) (oi p4) (oi p5) (oj c0) .second (oj c1) .second (oj c2) .second (oj l0) .second (oj dd) .second (oj mm) .second (oi (p5 &&& (3 : Int32))) (oi (((p5.toUInt32 >>> ((2 : Int32) &&& 31).toUInt32).toInt32) &&& (3 : Int32))) (oi ((((p5.toUInt32 >>> ((4 : Int32) &&& 31).toUInt32).toInt32) &&& (268435455 : Int32)) % (3 : Int32))) (oj s0) .second (oj s1) .second (oR b31) .unset .unset .unset .unset .unset .unset .unset .unset .unset .unset [(.long l0), (.long c0)]) _
        refine XS.lmul X35.here hx rfl (hb hby at_149) rfl ?_
        refine XS.lload X35.here hx rfl (hb hby at_150) rfl ?_
        refine XS.lmul X35.here hx rfl (hb hby at_152) rfl ?_
        refine XS.lload X35.here hx rfl (hb hby at_153) rfl ?_
        refine XS.lload X35.here hx rfl (hb hby at_155) rfl ?_
        refine XS.lmul X35.here hx rfl (hb hby at_157) rfl ?_
        refine XS.lload X35.here hx rfl (hb hby at_158) rfl ?_
        refine XS.lmul X35.here hx rfl (hb hby at_160) rfl ?_
        refine XS.ladd X35.here hx rfl (hb hby at_161) rfl ?_
        show oW p e below T35 (oF_law m 162 (oi p0) (oi p1) (oi p2) (oi p3) (oi p4) (oi p5) (oj c0) .second (oj c1) .second (oj c2) .second (oj l0) .second (oj dd) .second (oj mm) .second (oi (p5 &&& (3 : Int32))) (oi (((p5.toUInt32 >>> ((2 : Int32) &&& 31).toUInt32).toInt32) &&& (3 : Int32))) (oi ((((p5.toUInt32 >>> ((4 : Int32) &&& 31).toUInt32).toInt32) &&& (268435455 : Int32)) % (3 : Int32))) (oj s0) .second (oj s1) .second (oR b31) .unset .unset .unset .unset .unset .unset .unset .unset .unset .unset [(.long (((c0 * l0) * s1) + ((c1 * mm) * s0)))]) _
        refine XS.lstore X35.here hx rfl (hb hby at_162) rfl (l' := #[(oi p0), (oi p1), (oi p2), (oi p3), (oi p4), (oi p5), (oj c0), .second, (oj c1), .second, (oj c2), .second, (oj l0), .second, (oj dd), .second, (oj mm), .second, (oi (p5 &&& (3 : Int32))), (oi (((p5.toUInt32 >>> ((2 : Int32) &&& 31).toUInt32).toInt32) &&& (3 : Int32))), (oi ((((p5.toUInt32 >>> ((4 : Int32) &&& 31).toUInt32).toInt32) &&& (268435455 : Int32)) % (3 : Int32))), (oj s0), .second, (oj s1), .second, (oR b31), (oj (((c0 * l0) * s1) + ((c1 * mm) * s0))), .second, .unset, .unset, .unset, .unset, .unset, .unset, .unset, .unset]) rfl ?_
        refine XS.goto X35.here hx rfl (pc0 := 164) (pc' := 202) rfl (hb hby at_164) (by decide) (by decide) ?_
        exact k) ?_
      exact seg _ _ _ b31 k31 (1 : Int32) (0 : Int32) (((c0 * l0) * s1) + ((c1 * mm) * s0)) X35 e35 N35 Z35 g_b31 f35_0 (Or.inr (Or.inl ⟨rfl, rfl, rfl⟩))
    · skip
      refine own_go (A := oW p e below s₁ (oF_law m 168 (oi p0) (oi p1) (oi p2) (oi p3) (oi p4) (oi p5) (oj c0) .second (oj c1) .second (oj c2) .second (oj l0) .second (oj dd) .second (oj mm) .second (oi (p5 &&& (3 : Int32))) (oi (((p5.toUInt32 >>> ((2 : Int32) &&& 31).toUInt32).toInt32) &&& (3 : Int32))) (oi ((((p5.toUInt32 >>> ((4 : Int32) &&& 31).toUInt32).toInt32) &&& (268435455 : Int32)) % (3 : Int32))) (oj s0) .second (oj s1) .second .unset .unset .unset .unset .unset .unset .unset .unset .unset .unset .unset [(.int 2)])) (fun t k => by
        refine XS.icmpYes X0.here hx rfl (pc0 := 129) (pc' := 167) rfl (hb hby at_129) rfl (feq hc129_30).2 (by decide) (by decide) ?_
        refine XS.iconst X0.here hx rfl (hb hby at_167) ?_
        exact k) ?_
      obtain ⟨T36, h36, k36, X36, e36, E36, A36, Q36, st36⟩ := newPE X0 hx hZ (aty := .int) ow3 e0 (g := (oF_law m 168 (oi p0) (oi p1) (oi p2) (oi p3) (oi p4) (oi p5) (oj c0) .second (oj c1) .second (oj c2) .second (oj l0) .second (oj dd) .second (oj mm) .second (oi (p5 &&& (3 : Int32))) (oi (((p5.toUInt32 >>> ((2 : Int32) &&& 31).toUInt32).toInt32) &&& (3 : Int32))) (oi ((((p5.toUInt32 >>> ((4 : Int32) &&& 31).toUInt32).toInt32) &&& (268435455 : Int32)) % (3 : Int32))) (oj s0) .second (oj s1) .second .unset .unset .unset .unset .unset .unset .unset .unset .unset .unset .unset [(.int 2)])) rfl (hb hby at_168) rfl (by decide) (cap := 2) (by decide) (by decide) (by decide) (by decide) (ad := "[I") (by decide)
      obtain ⟨b36, g36⟩ : ∃ z, z = h0.size := ⟨_, rfl⟩
      rw [← g36] at A36 Q36 st36
      refine own_go st36 ?_
      have g_b36 : n0 ≤ b36 := Nat.le_trans Z0 (Nat.le_of_eq g36.symm)
      have Z36 : n0 ≤ h36.size := Nat.le_trans Z0 E36.1
      have U36 : Arv Z h36 b36 k36 .int (2 : Int32) [] (.int 0) := Arv.new A36 (by decide)
      have V36 : Arv Z h36 b36 k36 .int (2 : Int32) [(.int 0), (.int 0)] (.int 0) := U36.pad (pad_rep [] (.int 0) 2)
      refine own_go (A := oW p e below T36 (oF_law m 173 (oi p0) (oi p1) (oi p2) (oi p3) (oi p4) (oi p5) (oj c0) .second (oj c1) .second (oj c2) .second (oj l0) .second (oj dd) .second (oj mm) .second (oi (p5 &&& (3 : Int32))) (oi (((p5.toUInt32 >>> ((2 : Int32) &&& 31).toUInt32).toInt32) &&& (3 : Int32))) (oi ((((p5.toUInt32 >>> ((4 : Int32) &&& 31).toUInt32).toInt32) &&& (268435455 : Int32)) % (3 : Int32))) (oj s0) .second (oj s1) .second .unset .unset .unset .unset .unset .unset .unset .unset .unset .unset .unset [(.int 2), (.int 0), (.ref b36), (.ref b36)])) (fun t k => by
        refine XS.dup X36.here hx rfl (hb hby at_170) rfl rfl ?_
        refine XS.iconst X36.here hx rfl (hb hby at_171) ?_
        refine XS.iconst X36.here hx rfl (hb hby at_172) ?_
        exact k) ?_
      obtain ⟨cl37, Ar37, q37, S37, N37, H37, G37⟩ := id (V36)
      have hi37 : ¬ ((0 : Int32) < 0 ∨ cl37.slots.size ≤ ((0 : Int32)).toNatClampNeg) := inb_of S37 ⟨by decide, by decide⟩
      obtain ⟨T38, h38, X38, e38, W38, st38⟩ := stI X36 hx hZ e36 Ar37 (j := (0 : Int32)) hi37 (g := (oF_law m 173 (oi p0) (oi p1) (oi p2) (oi p3) (oi p4) (oi p5) (oj c0) .second (oj c1) .second (oj c2) .second (oj l0) .second (oj dd) .second (oj mm) .second (oi (p5 &&& (3 : Int32))) (oi (((p5.toUInt32 >>> ((2 : Int32) &&& 31).toUInt32).toInt32) &&& (3 : Int32))) (oi ((((p5.toUInt32 >>> ((4 : Int32) &&& 31).toUInt32).toInt32) &&& (268435455 : Int32)) % (3 : Int32))) (oj s0) .second (oj s1) .second .unset .unset .unset .unset .unset .unset .unset .unset .unset .unset .unset [(.int 2), (.int 0), (.ref b36), (.ref b36)])) rfl rfl (hb hby at_173)
      refine own_go st38 ?_
      have V38 : Arv Z h38 b36 k36 .int (2 : Int32) [(.int 2), (.int 0)] (.int 0) := Arv.set Ar37 q37 S37 N37 H37 G37 rfl W38 0 rfl (Nat.le_of_ble_eq_true rfl)
      have f38_0 : Arv Z h38 b36 k36 .int (2 : Int32) [(.int 2), (.int 0)] (.int 0) := V38
      have f38_1 : Exa Z h38 b36 "[I" := Q36.wr W38
      have N38 := Fr.snoc X38 N0 g_b36
      have Z38 : n0 ≤ h38.size := Nat.le_trans Z36 (Keep.of_wr W38).1
      refine own_go (A := oW p e below T38 (oF_law m 177 (oi p0) (oi p1) (oi p2) (oi p3) (oi p4) (oi p5) (oj c0) .second (oj c1) .second (oj c2) .second (oj l0) .second (oj dd) .second (oj mm) .second (oi (p5 &&& (3 : Int32))) (oi (((p5.toUInt32 >>> ((2 : Int32) &&& 31).toUInt32).toInt32) &&& (3 : Int32))) (oi ((((p5.toUInt32 >>> ((4 : Int32) &&& 31).toUInt32).toInt32) &&& (268435455 : Int32)) % (3 : Int32))) (oj s0) .second (oj s1) .second .unset .unset .unset .unset .unset .unset .unset .unset .unset .unset .unset [(.int 1), (.int 1), (.ref b36), (.ref b36)])) (fun t k => by
        refine XS.dup X38.here hx rfl (hb hby at_174) rfl rfl ?_
        refine XS.iconst X38.here hx rfl (hb hby at_175) ?_
        show oW p e below T38 (oF_law m 176 (oi p0) (oi p1) (oi p2) (oi p3) (oi p4) (oi p5) (oj c0) .second (oj c1) .second (oj c2) .second (oj l0) .second (oj dd) .second (oj mm) .second (oi (p5 &&& (3 : Int32))) (oi (((p5.toUInt32 >>> ((2 : Int32) &&& 31).toUInt32).toInt32) &&& (3 : Int32))) (oi ((((p5.toUInt32 >>> ((4 : Int32) &&& 31).toUInt32).toInt32) &&& (268435455 : Int32)) % (3 : Int32))) (oj s0) .second (oj s1) .second .unset .unset .unset .unset .unset .unset .unset .unset .unset .unset .unset [(.int 1), (.ref b36), (.ref b36)]) _
        refine XS.iconst X38.here hx rfl (hb hby at_176) ?_
        exact k) ?_
      obtain ⟨cl39, Ar39, q39, S39, N39, H39, G39⟩ := id (f38_0)
      have hi39 : ¬ ((1 : Int32) < 0 ∨ cl39.slots.size ≤ ((1 : Int32)).toNatClampNeg) := inb_of S39 ⟨by decide, by decide⟩
      obtain ⟨T40, h40, X40, e40, W40, st40⟩ := stI X38 hx hZ e38 Ar39 (j := (1 : Int32)) hi39 (g := (oF_law m 177 (oi p0) (oi p1) (oi p2) (oi p3) (oi p4) (oi p5) (oj c0) .second (oj c1) .second (oj c2) .second (oj l0) .second (oj dd) .second (oj mm) .second (oi (p5 &&& (3 : Int32))) (oi (((p5.toUInt32 >>> ((2 : Int32) &&& 31).toUInt32).toInt32) &&& (3 : Int32))) (oi ((((p5.toUInt32 >>> ((4 : Int32) &&& 31).toUInt32).toInt32) &&& (268435455 : Int32)) % (3 : Int32))) (oj s0) .second (oj s1) .second .unset .unset .unset .unset .unset .unset .unset .unset .unset .unset .unset [(.int 1), (.int 1), (.ref b36), (.ref b36)])) rfl rfl (hb hby at_177)
      refine own_go st40 ?_
      have V40 : Arv Z h40 b36 k36 .int (2 : Int32) [(.int 2), (.int 1)] (.int 0) := Arv.set Ar39 q39 S39 N39 H39 G39 rfl W40 1 rfl (Nat.le_of_ble_eq_true rfl)
      have f40_0 : Arv Z h40 b36 k36 .int (2 : Int32) [(.int 2), (.int 1)] (.int 0) := V40
      have f40_1 : Exa Z h40 b36 "[I" := f38_1.wr W40
      have N40 := Fr.snoc X40 N38 g_b36
      have Z40 : n0 ≤ h40.size := Nat.le_trans Z38 (Keep.of_wr W40).1
      refine own_go (A := oW p e below T40 (oF_law m 202 (oi p0) (oi p1) (oi p2) (oi p3) (oi p4) (oi p5) (oj c0) .second (oj c1) .second (oj c2) .second (oj l0) .second (oj dd) .second (oj mm) .second (oi (p5 &&& (3 : Int32))) (oi (((p5.toUInt32 >>> ((2 : Int32) &&& 31).toUInt32).toInt32) &&& (3 : Int32))) (oi ((((p5.toUInt32 >>> ((4 : Int32) &&& 31).toUInt32).toInt32) &&& (268435455 : Int32)) % (3 : Int32))) (oj s0) .second (oj s1) .second (oR b36) (oj ((((c2 * l0) * s0) * s1) + ((c1 * dd) * s0))) .second .unset .unset .unset .unset .unset .unset .unset .unset [])) (fun t k => by
        refine XS.astore X40.here hx rfl (hb hby at_178) rfl rfl (l' := #[(oi p0), (oi p1), (oi p2), (oi p3), (oi p4), (oi p5), (oj c0), .second, (oj c1), .second, (oj c2), .second, (oj l0), .second, (oj dd), .second, (oj mm), .second, (oi (p5 &&& (3 : Int32))), (oi (((p5.toUInt32 >>> ((2 : Int32) &&& 31).toUInt32).toInt32) &&& (3 : Int32))), (oi ((((p5.toUInt32 >>> ((4 : Int32) &&& 31).toUInt32).toInt32) &&& (268435455 : Int32)) % (3 : Int32))), (oj s0), .second, (oj s1), .second, (oR b36), .unset, .unset, .unset, .unset, .unset, .unset, .unset, .unset, .unset, .unset]) rfl ?_
        refine XS.lload X40.here hx rfl (hb hby at_180) rfl ?_
        refine XS.lload X40.here hx rfl (hb hby at_182) rfl ?_
        refine XS.lmul X40.here hx rfl (hb hby at_184) rfl ?_
        refine XS.lload X40.here hx rfl (hb hby at_185) rfl ?_
        refine XS.lmul X40.here hx rfl (hb hby at_187) rfl ?_
        refine XS.lload X40.here hx rfl (hb hby at_188) rfl ?_
        refine XS.lmul X40.here hx rfl (hb hby at_190) rfl ?_
        show oW p e below T40 (oF_law m 191 (oi p0) (oi p1) (oi p2) (oi p3) (oi p4) (oi p5) (oj c0) .second (oj c1) .second (oj c2) .second (oj l0) .second (oj dd) .second (oj mm) .second (oi (p5 &&& (3 : Int32))) (oi (((p5.toUInt32 >>> ((2 : Int32) &&& 31).toUInt32).toInt32) &&& (3 : Int32))) (oi ((((p5.toUInt32 >>> ((4 : Int32) &&& 31).toUInt32).toInt32) &&& (268435455 : Int32)) % (3 : Int32))) (oj s0) .second (oj s1) .second (oR b36) .unset .unset .unset .unset .unset .unset .unset .unset .unset .unset [(.long (((c2 * l0) * s0) * s1))]) _
        refine XS.lload X40.here hx rfl (hb hby at_191) rfl ?_
        refine XS.lload X40.here hx rfl (hb hby at_193) rfl ?_
        refine XS.lmul X40.here hx rfl (hb hby at_195) rfl ?_
        refine XS.lload X40.here hx rfl (hb hby at_196) rfl ?_
        refine XS.lmul X40.here hx rfl (hb hby at_198) rfl ?_
        refine XS.ladd X40.here hx rfl (hb hby at_199) rfl ?_
        refine XS.lstore X40.here hx rfl (hb hby at_200) rfl (l' := #[(oi p0), (oi p1), (oi p2), (oi p3), (oi p4), (oi p5), (oj c0), .second, (oj c1), .second, (oj c2), .second, (oj l0), .second, (oj dd), .second, (oj mm), .second, (oi (p5 &&& (3 : Int32))), (oi (((p5.toUInt32 >>> ((2 : Int32) &&& 31).toUInt32).toInt32) &&& (3 : Int32))), (oi ((((p5.toUInt32 >>> ((4 : Int32) &&& 31).toUInt32).toInt32) &&& (268435455 : Int32)) % (3 : Int32))), (oj s0), .second, (oj s1), .second, (oR b36), (oj ((((c2 * l0) * s0) * s1) + ((c1 * dd) * s0))), .second, .unset, .unset, .unset, .unset, .unset, .unset, .unset, .unset]) rfl ?_
        exact k) ?_
      exact seg _ _ _ b36 k36 (2 : Int32) (1 : Int32) ((((c2 * l0) * s0) * s1) + ((c1 * dd) * s0)) X40 e40 N40 Z40 g_b36 f40_0 (Or.inr (Or.inr ⟨rfl, rfl, rfl⟩))
set_option maxRecDepth 65536 in
set_option maxHeartbeats 40000000 in
theorem own_comes {Post : Tables → Env → Array Value → State → Outcome → State → Prop} (hpost : ∀ tb e args s v u, (limb_1_1.after args s (.returned v) u = true ∧ limb_1_2.after args s (.returned v) u = true ∧ True) → FrameEnd s (.returned v) u (Jvm.fieldLocs frame_1_writes args s ++ Jvm.arrayLocs frame_1_arrays args s ++ Jvm.staticLocs frame_1_statics s) 56 320 → Post tb e args s (.returned v) u) :
    ArmFor flags0 classFile x code maxLocals ret World_1 tables_1 room_1 Calls_1 rest_1 Pre_1 Post := by
  intro l hfl _ _ p e ha hc hk s m args below hf hA hF happ hP
  obtain ⟨hcalls, hrest, hpre⟩ := hP
  obtain ⟨-, -, -, hnamed, -, -, -, hat⟩ := (Spec.applies_iff hf).mp happ
  obtain ⟨hg, hn⟩ := and_e (Cond.before_iff.mp (show (Jvm.Cond.and given_1 narrow_1).before args s = true from hpre))
  obtain ⟨hg1a, hg1b⟩ := and_e hg
  obtain ⟨hg2a, hg2b⟩ := and_e hg1b
  obtain ⟨hg3a, hg3b⟩ := and_e hg2b
  obtain ⟨hg4a, hg4b⟩ := and_e hg3b
  obtain ⟨hg5a, hg5b⟩ := and_e hg4b
  obtain ⟨hg6a, hg6b⟩ := and_e hg5b
  obtain ⟨w0, w1, w2, w3, w4, w5, rfl⟩ : ∃ w0 w1 w2 w3 w4 w5 : Value, args = #[w0, w1, w2, w3, w4, w5] := by
    have hs : args.size = 6 := by simpa [Cond.value, given_1] using hg1a
    obtain ⟨L⟩ := args
    match L, hs with
    | [w0, w1, w2, w3, w4, w5], _ => exact ⟨w0, w1, w2, w3, w4, w5, rfl⟩
  have hw := fun d (hd : d ∈ tables_1) => atoms_spec (ws := Jvm.Cond.code x code maxLocals ret :: tables_1) hat d (List.mem_cons_of_mem _ hd)
  have hfit : Fit s := fun {y c} hc i hi => by
    obtain ⟨ha, rfl⟩ := Array.getElem?_eq_some_iff.mp hc
    have q := List.all_eq_true.mp ((Array.all_eq_true_iff_forall_mem.mp hF) _ (Array.getElem_mem ha)) i (List.mem_range.mpr hi)
    simpa [Array.getElem?_eq_getElem hi] using q
  obtain ⟨i0, ei0⟩ := is_v hg2a
  obtain rfl : w0 = (.int i0) := Option.some.inj ei0
  obtain ⟨i1, ei1⟩ := is_v hg3a
  obtain rfl : w1 = (.int i1) := Option.some.inj ei1
  obtain ⟨i2, ei2⟩ := is_v hg4a
  obtain rfl : w2 = (.int i2) := Option.some.inj ei2
  obtain ⟨i3, ei3⟩ := is_v hg5a
  obtain rfl : w3 = (.int i3) := Option.some.inj ei3
  obtain ⟨i4, ei4⟩ := is_v hg6a
  obtain rfl : w4 = (.int i4) := Option.some.inj ei4
  obtain ⟨i5, ei5⟩ := is_v hg6b
  obtain rfl : w5 = (.int i5) := Option.some.inj ei5
  obtain ⟨n, o, h1, h2, h3, _, L, rfl, ⟨rfl, N⟩, hq⟩ := own_rm_law l s _ hw tables_1 i0 i1 i2 i3 i4 i5 s.heap s.heap.size (Nat.le_refl _) p e ha hc hk s m _ below hf ((Spec.applies_iff_loose hf).mp happ).1 ⟨rfl, State.Warmed39.refl s, rfl⟩ trivial
  refine ⟨n, _, h1, h2, h3, hpost _ _ _ _ _ _ ⟨Cond.after_iff.mpr rfl, Cond.after_iff.mpr (eq_i res_at (Term.int_eval (1)) rfl), trivial⟩ ⟨hq.1, hq.2.1, (hq.2.2.sift fun y hy => Or.inr (N y hy)).mono (by decide) (by decide)⟩⟩
theorem main_1_1 : Claimed_1_1 := own_comes fun _ _ _ _ _ _ h hF => ⟨h.1, hF⟩
theorem main_1_2 : Claimed_1_2 := own_comes fun _ _ _ _ _ _ h hF => ⟨h.2.1, hF⟩
end Jvm.Pilot.@@N@@
namespace Jvm.Pilot.@@N@@
open Jvm Jvm.ClassFile Sem Op Lib Jvm.Free Jvm.Stand Jvm.Pilot.@@N@@.Jvm.D
/-! MADE BY PROGRAM (witnessworld.py) out of the Statement's table words and the real class files: 14 classes; the members and pool entries that the words name. The judged class is class 1, her method 1. -/
namespace start1
open Jvm.ClassFile
def u (s : String) : CpInfo := .utf8 (stringToUtf16 s)
/-- a pool by its gaps: so many unusable entries, then the entry; so many at the end -/
def gap : Nat → List CpInfo → List CpInfo
  | 0, r => r
  | n + 1, r => .unusable :: gap n r
def poolList (es : List (Nat × CpInfo)) (last : Nat) : List CpInfo := es.foldr (fun e r => gap e.1 (e.2 :: r)) (gap last [])
def pool (es : List (Nat × CpInfo)) (last : Nat) : Array CpInfo := ⟨poolList es last⟩
def fileOf (pool : Array CpInfo) (this : Nat) (attrs : Array Attribute := #[]) (ms : Array MethodInfo := #[]) (fl : Nat := 33) (sup : Nat := 0) (ifs : Array Nat := #[]) (fds : Array FieldInfo := #[]) : ClassFile where
  minorVersion := 0
  majorVersion := 65
  constantPool := pool
  accessFlags := fl
  thisClass := this
  superClass := sup
  interfaces := ifs
  fields := fds
  methods := ms
  attributes := attrs
def plain (name : String) (sup : Option ClassId) : Class where
  name := name
  kind := .ordinary
  loader := none
  accessFlags := 33
  super := sup
  interfaces := #[]
  cf := none
  fields := #[]
  methods := #[]
  instanceTypes := #[]
  staticTypes := #[]
  resolved := #[]
  callSites := []
  init := .initialized
  statics := none
  mirror := none

def pool0 : Array CpInfo := pool [(5, u "<init>"), (0, u "()V"), (1, .class_ 10), (1, u "java/lang/Object"), (85, u "clone"), (0, u "()Ljava/lang/Object;")] 26

def k0c0 : Code := { maxStack := 0, maxLocals := 1, code := object_method_1_code, exceptionTable := #[], attributes := #[] }
def k0m0 : Method := { name := "<init>", desc := "()V", sig := { parameters := [], returnType := none }, accessFlags := 1, code := some k0c0 }
def k0m1 : Method := { name := "clone", desc := "()Ljava/lang/Object;", sig := { parameters := [], returnType := some (.object "java/lang/Object") }, accessFlags := 260, code := none }
/-- java/lang/Object -/
def k0 : Class := { plain "java/lang/Object" none with
  accessFlags := 33
  interfaces := #[]
  cf := some (fileOf pool0 8 #[] #[{ accessFlags := 1, nameIndex := 5, descriptorIndex := 6, attributes := #[] }, { accessFlags := 260, nameIndex := 96, descriptorIndex := 97, attributes := #[] }] 33 0 #[] #[])
  fields := #[]
  methods := #[k0m0, k0m1]
  instanceTypes := #[]
  staticTypes := #[]
  resolved := Array.replicate 124 none
  statics := none }

def pool1 : Array CpInfo := pool [(2, .class_ 4), (1, u "java/lang/Object"), (0, u "<init>"), (0, u "()V"), (0, .integer 1000000), (0, .integer 2147483647), (0, .integer 268435455), (0, .class_ 11), (0, u "com/example/composure/composure/select/Simplex"), (0, .methodref 10 13), (0, .nameAndType 5 14), (0, u "([D)V"), (0, .methodref 10 16), (0, .nameAndType 17 18), (0, u "add"), (0, u "([DD)I"), (0, .methodref 10 20), (0, .nameAndType 21 22), (0, u "start"), (0, u "([I)Z"), (0, .methodref 10 24), (0, .nameAndType 25 26), (0, u "value"), (0, u "()D"), (0, .class_ 28), (0, u "com/example/composure/composure/select/SimplexValuePinLaw"), (2, u "law"), (0, u "(IIIIII)Z")] 7

def k1m0 : Method := { name := "<init>", desc := "()V", sig := { parameters := [], returnType := none }, accessFlags := 1, code := none }
def k1c1 : Code := { maxStack := 6, maxLocals := 36, code := code, exceptionTable := #[], attributes := #[] }
def k1m1 : Method := { name := "law", desc := "(IIIIII)Z", sig := { parameters := [.int, .int, .int, .int, .int, .int], returnType := some .boolean }, accessFlags := 9, code := some k1c1 }
/-- com/example/composure/composure/select/SimplexValuePinLaw -/
def k1 : Class := { plain "com/example/composure/composure/select/SimplexValuePinLaw" (some 0) with
  accessFlags := 49
  interfaces := #[]
  cf := some (fileOf pool1 27 #[] #[{ accessFlags := 1, nameIndex := 5, descriptorIndex := 6, attributes := #[] }, { accessFlags := 9, nameIndex := 31, descriptorIndex := 32, attributes := #[] }] 49 2 #[] #[])
  fields := #[]
  methods := #[k1m0, k1m1]
  instanceTypes := #[]
  staticTypes := #[]
  resolved := Array.replicate 40 none
  statics := none }

def pool2 : Array CpInfo := pool [(1, .methodref 2 3), (0, .class_ 4), (0, .nameAndType 5 6), (0, u "java/lang/Object"), (0, u "<init>"), (0, u "()V"), (0, .class_ 8), (0, u "[D"), (0, .fieldref 10 11), (0, .class_ 12), (0, .nameAndType 13 14), (0, u "com/example/composure/composure/select/Simplex"), (0, u "columns"), (0, u "[[D"), (0, .fieldref 10 16), (0, .nameAndType 17 8), (0, u "costs"), (0, .fieldref 10 19), (0, .nameAndType 20 21), (0, u "barred"), (0, u "[Z"), (0, .fieldref 10 23), (0, .nameAndType 24 21), (0, u "basic"), (0, .fieldref 10 26), (0, .nameAndType 27 28), (0, u "rows"), (0, u "I"), (0, .methodref 7 30), (0, .nameAndType 31 32), (0, u "clone"), (0, u "()Ljava/lang/Object;"), (0, .fieldref 10 34), (0, .nameAndType 35 8), (0, u "limits"), (0, .fieldref 10 37), (0, .nameAndType 38 39), (0, u "basis"), (0, u "[I"), (0, .class_ 14), (0, .fieldref 10 42), (0, .nameAndType 43 14), (0, u "inverse"), (0, .fieldref 10 45), (0, .nameAndType 46 8), (0, u "values"), (0, .fieldref 10 48), (0, .nameAndType 49 14), (0, u "elimination"), (0, .fieldref 10 51), (0, .nameAndType 52 8), (0, u "prices"), (0, .fieldref 10 54), (0, .nameAndType 55 8), (0, u "direction"), (0, .methodref 57 58), (0, .class_ 59), (0, .nameAndType 60 61), (0, u "java/util/Arrays"), (0, u "fill"), (0, u "([II)V"), (0, .fieldref 10 63), (0, .nameAndType 64 28), (0, u "count"), (10, .methodref 76 77), (0, .class_ 78), (0, .nameAndType 79 80), (0, u "java/lang/Math"), (0, u "abs"), (0, u "(D)D"), (0, .double 4472406533629990549), (5, .methodref 10 88), (0, .nameAndType 89 90), (0, u "invert"), (0, u "()Z"), (0, .double 13695778570484766357), (4, u "([D)V"), (4, .methodref 10 102), (0, .nameAndType 103 104), (0, u "times"), (0, u "([D[D)V"), (18, .methodref 57 124), (0, .nameAndType 60 125), (0, u "([DIID)V"), (0, .methodref 127 128), (0, .class_ 129), (0, .nameAndType 130 131), (0, u "java/lang/System"), (0, u "arraycopy"), (0, u "(Ljava/lang/Object;ILjava/lang/Object;II)V"), (0, u "TOLERANCE"), (0, u "D"), (3, u "add"), (0, u "([DD)I"), (4, u "start"), (0, u "([I)Z"), (1, u "value"), (0, u "()D")] 3

def k2c0 : Code := { maxStack := 4, maxLocals := 2, code := prog_72_method_1_code, exceptionTable := #[], attributes := #[] }
def k2m0 : Method := { name := "<init>", desc := "([D)V", sig := { parameters := [(.array .double)], returnType := none }, accessFlags := 0, code := some k2c0 }
def k2c1 : Code := { maxStack := 4, maxLocals := 4, code := prog_72_method_2_code, exceptionTable := #[], attributes := #[] }
def k2m1 : Method := { name := "add", desc := "([DD)I", sig := { parameters := [(.array .double), .double], returnType := some .int }, accessFlags := 0, code := some k2c1 }
def k2c2 : Code := { maxStack := 4, maxLocals := 7, code := prog_72_method_5_code, exceptionTable := #[], attributes := #[] }
def k2m2 : Method := { name := "start", desc := "([I)Z", sig := { parameters := [(.array .int)], returnType := some .boolean }, accessFlags := 0, code := some k2c2 }
def k2c3 : Code := { maxStack := 6, maxLocals := 4, code := prog_72_method_7_code, exceptionTable := #[], attributes := #[] }
def k2m3 : Method := { name := "value", desc := "()D", sig := { parameters := [], returnType := some .double }, accessFlags := 0, code := some k2c3 }
def k2c4 : Code := { maxStack := 6, maxLocals := 7, code := prog_72_method_11_code, exceptionTable := #[], attributes := #[] }
def k2m4 : Method := { name := "times", desc := "([D[D)V", sig := { parameters := [(.array .double), (.array .double)], returnType := none }, accessFlags := 2, code := some k2c4 }
def k2c5 : Code := { maxStack := 8, maxLocals := 11, code := prog_72_method_14_code, exceptionTable := #[], attributes := #[] }
def k2m5 : Method := { name := "invert", desc := "()Z", sig := { parameters := [], returnType := some .boolean }, accessFlags := 2, code := some k2c5 }
/-- com/example/composure/composure/select/Simplex -/
def k2 : Class := { plain "com/example/composure/composure/select/Simplex" (some 0) with
  accessFlags := 48
  interfaces := #[]
  cf := some (fileOf pool2 10 #[] #[{ accessFlags := 0, nameIndex := 5, descriptorIndex := 96, attributes := #[] }, { accessFlags := 0, nameIndex := 137, descriptorIndex := 138, attributes := #[] }, { accessFlags := 0, nameIndex := 143, descriptorIndex := 144, attributes := #[] }, { accessFlags := 0, nameIndex := 146, descriptorIndex := 147, attributes := #[] }, { accessFlags := 2, nameIndex := 103, descriptorIndex := 104, attributes := #[] }, { accessFlags := 2, nameIndex := 89, descriptorIndex := 90, attributes := #[] }] 48 2 #[] #[{ accessFlags := 24, nameIndex := 132, descriptorIndex := 133, attributes := #[] }, { accessFlags := 18, nameIndex := 27, descriptorIndex := 28, attributes := #[] }, { accessFlags := 18, nameIndex := 35, descriptorIndex := 8, attributes := #[] }, { accessFlags := 2, nameIndex := 13, descriptorIndex := 14, attributes := #[] }, { accessFlags := 2, nameIndex := 17, descriptorIndex := 8, attributes := #[] }, { accessFlags := 2, nameIndex := 20, descriptorIndex := 21, attributes := #[] }, { accessFlags := 2, nameIndex := 24, descriptorIndex := 21, attributes := #[] }, { accessFlags := 2, nameIndex := 64, descriptorIndex := 28, attributes := #[] }, { accessFlags := 18, nameIndex := 38, descriptorIndex := 39, attributes := #[] }, { accessFlags := 18, nameIndex := 43, descriptorIndex := 14, attributes := #[] }, { accessFlags := 18, nameIndex := 46, descriptorIndex := 8, attributes := #[] }, { accessFlags := 18, nameIndex := 49, descriptorIndex := 14, attributes := #[] }, { accessFlags := 18, nameIndex := 52, descriptorIndex := 8, attributes := #[] }, { accessFlags := 18, nameIndex := 55, descriptorIndex := 8, attributes := #[] }])
  fields := #[{ name := "TOLERANCE", type := .double, accessFlags := 24, slot := 0, constantValue := 0 }, { name := "rows", type := .int, accessFlags := 18, slot := 0, constantValue := 0 }, { name := "limits", type := (.array .double), accessFlags := 18, slot := 1, constantValue := 0 }, { name := "columns", type := (.array (.array .double)), accessFlags := 2, slot := 2, constantValue := 0 }, { name := "costs", type := (.array .double), accessFlags := 2, slot := 3, constantValue := 0 }, { name := "barred", type := (.array .boolean), accessFlags := 2, slot := 4, constantValue := 0 }, { name := "basic", type := (.array .boolean), accessFlags := 2, slot := 5, constantValue := 0 }, { name := "count", type := .int, accessFlags := 2, slot := 6, constantValue := 0 }, { name := "basis", type := (.array .int), accessFlags := 18, slot := 7, constantValue := 0 }, { name := "inverse", type := (.array (.array .double)), accessFlags := 18, slot := 8, constantValue := 0 }, { name := "values", type := (.array .double), accessFlags := 18, slot := 9, constantValue := 0 }, { name := "elimination", type := (.array (.array .double)), accessFlags := 18, slot := 10, constantValue := 0 }, { name := "prices", type := (.array .double), accessFlags := 18, slot := 11, constantValue := 0 }, { name := "direction", type := (.array .double), accessFlags := 18, slot := 12, constantValue := 0 }]
  methods := #[k2m0, k2m1, k2m2, k2m3, k2m4, k2m5]
  instanceTypes := #[.int, (.array .double), (.array (.array .double)), (.array .double), (.array .boolean), (.array .boolean), .int, (.array .int), (.array (.array .double)), (.array .double), (.array (.array .double)), (.array .double), (.array .double)]
  staticTypes := #[.double]
  resolved := Array.replicate 151 none
  statics := none }

def pool3 : Array CpInfo := pool [(1, .class_ 2), (0, u "java/lang/Cloneable"), (0, .class_ 4), (0, u "java/lang/Object")] 2

/-- java/lang/Cloneable -/
def k3 : Class := { plain "java/lang/Cloneable" (some 0) with
  accessFlags := 1537
  interfaces := #[]
  cf := some (fileOf pool3 1 #[] #[] 1537 3 #[] #[])
  fields := #[]
  methods := #[]
  instanceTypes := #[]
  staticTypes := #[]
  resolved := Array.replicate 7 none
  statics := none }

def pool4 : Array CpInfo := pool [(2, .class_ 4), (1, u "java/lang/Object"), (0, u "<init>"), (0, u "()V"), (6, .methodref 14 15), (0, .class_ 16), (0, .nameAndType 17 18), (0, u "java/util/Arrays"), (0, u "rangeCheck"), (0, u "(III)V"), (55, .class_ 76), (1, u "java/util/Arrays$NaturalOrder"), (36, .class_ 115), (1, u "java/util/Arrays$LegacyMergeSort"), (1, u "Z"), (257, .class_ 376), (0, u "java/util/Arrays$ArrayList"), (68, u "$assertionsDisabled"), (269, u "MIN_ARRAY_SORT_GRAN"), (0, u "I"), (2, u "INSERTIONSORT_THRESHOLD"), (120, u "fill"), (4, u "([II)V"), (9, u "([DIID)V"), (119, .class_ 976), (0, u "java/util/Arrays$ArrayItr")] 52

def k4m0 : Method := { name := "<init>", desc := "()V", sig := { parameters := [], returnType := none }, accessFlags := 2, code := none }
def k4c1 : Code := { maxStack := 4, maxLocals := 3, code := jdk_65_method_30_code, exceptionTable := #[], attributes := #[] }
def k4m1 : Method := { name := "rangeCheck", desc := "(III)V", sig := { parameters := [.int, .int, .int], returnType := none }, accessFlags := 8, code := some k4c1 }
def k4c2 : Code := { maxStack := 3, maxLocals := 4, code := jdk_65_method_103_code, exceptionTable := #[], attributes := #[] }
def k4m2 : Method := { name := "fill", desc := "([II)V", sig := { parameters := [(.array .int), .int], returnType := none }, accessFlags := 9, code := some k4c2 }
def k4c3 : Code := { maxStack := 4, maxLocals := 6, code := jdk_65_method_114_code, exceptionTable := #[], attributes := #[] }
def k4m3 : Method := { name := "fill", desc := "([DIID)V", sig := { parameters := [(.array .double), .int, .int, .double], returnType := none }, accessFlags := 9, code := some k4c3 }
/-- java/util/Arrays -/
def k4 : Class := { plain "java/util/Arrays" (some 0) with
  accessFlags := 49
  interfaces := #[]
  cf := some (fileOf pool4 14 #[.nestMembers #[975, 375, 113, 74]] #[{ accessFlags := 2, nameIndex := 5, descriptorIndex := 6, attributes := #[] }, { accessFlags := 8, nameIndex := 17, descriptorIndex := 18, attributes := #[] }, { accessFlags := 9, nameIndex := 840, descriptorIndex := 845, attributes := #[] }, { accessFlags := 9, nameIndex := 840, descriptorIndex := 855, attributes := #[] }] 49 2 #[] #[{ accessFlags := 26, nameIndex := 715, descriptorIndex := 716, attributes := #[] }, { accessFlags := 26, nameIndex := 719, descriptorIndex := 716, attributes := #[] }, { accessFlags := 4120, nameIndex := 445, descriptorIndex := 117, attributes := #[] }])
  fields := #[{ name := "MIN_ARRAY_SORT_GRAN", type := .int, accessFlags := 26, slot := 0, constantValue := 0 }, { name := "INSERTIONSORT_THRESHOLD", type := .int, accessFlags := 26, slot := 1, constantValue := 0 }, { name := "$assertionsDisabled", type := .boolean, accessFlags := 4120, slot := 2, constantValue := 0 }]
  methods := #[k4m0, k4m1, k4m2, k4m3]
  instanceTypes := #[]
  staticTypes := #[.int, .int, .boolean]
  resolved := Array.replicate 1029 none
  statics := none }

def pool5 : Array CpInfo := pool [(1, .class_ 2), (0, u "java/lang/Math"), (1, .class_ 6), (1, u "java/lang/Object"), (0, u "<init>"), (0, u "()V"), (5, u "(D)D"), (83, .class_ 100), (1, u "java/lang/Math$RandomNumberGeneratorHolder"), (23, u "abs"), (47, u "negativeZeroFloatBits"), (0, u "J"), (2, u "negativeZeroDoubleBits"), (68, u "$assertionsDisabled"), (0, u "Z"), (91, u "twoToTheDoubleScaleDown"), (0, u "D"), (4, u "twoToTheDoubleScaleUp"), (9, u "E"), (3, u "PI"), (2, u "TAU"), (2, u "DEGREES_TO_RADIANS"), (0, u "RADIANS_TO_DEGREES")] 94

def k5m0 : Method := { name := "<init>", desc := "()V", sig := { parameters := [], returnType := none }, accessFlags := 2, code := none }
def k5c1 : Code := { maxStack := 4, maxLocals := 2, code := jdk_29_method_64_code, exceptionTable := #[], attributes := #[] }
def k5m1 : Method := { name := "abs", desc := "(D)D", sig := { parameters := [.double], returnType := some .double }, accessFlags := 9, code := some k5c1 }
/-- java/lang/Math -/
def k5 : Class := { plain "java/lang/Math" (some 0) with
  accessFlags := 49
  interfaces := #[]
  cf := some (fileOf pool5 1 #[.nestMembers #[98]] #[{ accessFlags := 2, nameIndex := 7, descriptorIndex := 8, attributes := #[] }, { accessFlags := 9, nameIndex := 124, descriptorIndex := 14, attributes := #[] }] 49 4 #[] #[{ accessFlags := 25, nameIndex := 354, descriptorIndex := 339, attributes := #[] }, { accessFlags := 25, nameIndex := 358, descriptorIndex := 339, attributes := #[] }, { accessFlags := 25, nameIndex := 361, descriptorIndex := 339, attributes := #[] }, { accessFlags := 26, nameIndex := 364, descriptorIndex := 339, attributes := #[] }, { accessFlags := 26, nameIndex := 365, descriptorIndex := 339, attributes := #[] }, { accessFlags := 26, nameIndex := 172, descriptorIndex := 173, attributes := #[] }, { accessFlags := 26, nameIndex := 176, descriptorIndex := 173, attributes := #[] }, { accessFlags := 8, nameIndex := 344, descriptorIndex := 339, attributes := #[] }, { accessFlags := 8, nameIndex := 338, descriptorIndex := 339, attributes := #[] }, { accessFlags := 4120, nameIndex := 245, descriptorIndex := 246, attributes := #[] }])
  fields := #[{ name := "E", type := .double, accessFlags := 25, slot := 0, constantValue := 0 }, { name := "PI", type := .double, accessFlags := 25, slot := 1, constantValue := 0 }, { name := "TAU", type := .double, accessFlags := 25, slot := 2, constantValue := 0 }, { name := "DEGREES_TO_RADIANS", type := .double, accessFlags := 26, slot := 3, constantValue := 0 }, { name := "RADIANS_TO_DEGREES", type := .double, accessFlags := 26, slot := 4, constantValue := 0 }, { name := "negativeZeroFloatBits", type := .long, accessFlags := 26, slot := 5, constantValue := 0 }, { name := "negativeZeroDoubleBits", type := .long, accessFlags := 26, slot := 6, constantValue := 0 }, { name := "twoToTheDoubleScaleUp", type := .double, accessFlags := 8, slot := 7, constantValue := 0 }, { name := "twoToTheDoubleScaleDown", type := .double, accessFlags := 8, slot := 8, constantValue := 0 }, { name := "$assertionsDisabled", type := .boolean, accessFlags := 4120, slot := 9, constantValue := 0 }]
  methods := #[k5m0, k5m1]
  instanceTypes := #[]
  staticTypes := #[.double, .double, .double, .double, .double, .long, .long, .double, .double, .boolean]
  resolved := Array.replicate 460 none
  statics := none }

def pool6 : Array CpInfo := pool [(2, .class_ 4), (1, u "java/lang/Object"), (0, u "<init>"), (0, u "()V"), (1, .class_ 10), (1, u "java/lang/System"), (0, u "allowSecurityManager"), (0, u "I"), (16, u "cons"), (0, u "Ljava/io/Console;"), (77, .class_ 110), (1, u "java/lang/System$CallersHolder"), (43, u "initialErrStream"), (0, u "Ljava/io/PrintStream;"), (19, u "security"), (0, u "Ljava/lang/SecurityManager;"), (31, .class_ 209), (0, u "java/lang/System$1"), (7, u "props"), (0, u "Ljava/util/Properties;"), (2, u "lineSeparator"), (0, u "Ljava/lang/String;"), (96, .class_ 321), (1, u "java/lang/System$LoggerFinder"), (5, .class_ 328), (0, u "java/lang/System$Logger"), (67, u "err"), (2, u "out"), (91, u "notSupportedJnuEncoding"), (15, u "in"), (17, u "initialIn"), (0, u "Ljava/io/InputStream;"), (35, u "bootLayer"), (0, u "Ljava/lang/ModuleLayer;"), (99, .class_ 664), (0, u "java/lang/System$2"), (9, u "NEVER"), (2, u "MAYBE"), (49, u "arraycopy"), (0, u "(Ljava/lang/Object;ILjava/lang/Object;II)V"), (72, .class_ 802), (0, u "java/lang/System$Logger$Level")] 31

def k6m0 : Method := { name := "<init>", desc := "()V", sig := { parameters := [], returnType := none }, accessFlags := 2, code := none }
def k6m1 : Method := { name := "arraycopy", desc := "(Ljava/lang/Object;ILjava/lang/Object;II)V", sig := { parameters := [(.object "java/lang/Object"), .int, (.object "java/lang/Object"), .int, .int], returnType := none }, accessFlags := 265, code := none }
/-- java/lang/System -/
def k6 : Class := { plain "java/lang/System" (some 0) with
  accessFlags := 49
  interfaces := #[]
  cf := some (fileOf pool6 8 #[.nestMembers #[319, 327, 801, 108, 663, 208]] #[{ accessFlags := 2, nameIndex := 5, descriptorIndex := 6, attributes := #[] }, { accessFlags := 265, nameIndex := 727, descriptorIndex := 728, attributes := #[] }] 49 2 #[] #[{ accessFlags := 25, nameIndex := 507, descriptorIndex := 526, attributes := #[] }, { accessFlags := 25, nameIndex := 399, descriptorIndex := 155, attributes := #[] }, { accessFlags := 25, nameIndex := 396, descriptorIndex := 155, attributes := #[] }, { accessFlags := 10, nameIndex := 525, descriptorIndex := 526, attributes := #[] }, { accessFlags := 26, nameIndex := 674, descriptorIndex := 12, attributes := #[] }, { accessFlags := 26, nameIndex := 677, descriptorIndex := 12, attributes := #[] }, { accessFlags := 10, nameIndex := 11, descriptorIndex := 12, attributes := #[] }, { accessFlags := 74, nameIndex := 175, descriptorIndex := 176, attributes := #[] }, { accessFlags := 10, nameIndex := 491, descriptorIndex := 222, attributes := #[] }, { accessFlags := 74, nameIndex := 29, descriptorIndex := 30, attributes := #[] }, { accessFlags := 74, nameIndex := 154, descriptorIndex := 155, attributes := #[] }, { accessFlags := 10, nameIndex := 217, descriptorIndex := 218, attributes := #[] }, { accessFlags := 10, nameIndex := 221, descriptorIndex := 222, attributes := #[] }, { accessFlags := 8, nameIndex := 562, descriptorIndex := 563, attributes := #[] }])
  fields := #[{ name := "in", type := (.object "java/io/InputStream"), accessFlags := 25, slot := 0, constantValue := 0 }, { name := "out", type := (.object "java/io/PrintStream"), accessFlags := 25, slot := 1, constantValue := 0 }, { name := "err", type := (.object "java/io/PrintStream"), accessFlags := 25, slot := 2, constantValue := 0 }, { name := "initialIn", type := (.object "java/io/InputStream"), accessFlags := 10, slot := 3, constantValue := 0 }, { name := "NEVER", type := .int, accessFlags := 26, slot := 4, constantValue := 0 }, { name := "MAYBE", type := .int, accessFlags := 26, slot := 5, constantValue := 0 }, { name := "allowSecurityManager", type := .int, accessFlags := 10, slot := 6, constantValue := 0 }, { name := "security", type := (.object "java/lang/SecurityManager"), accessFlags := 74, slot := 7, constantValue := 0 }, { name := "notSupportedJnuEncoding", type := (.object "java/lang/String"), accessFlags := 10, slot := 8, constantValue := 0 }, { name := "cons", type := (.object "java/io/Console"), accessFlags := 74, slot := 9, constantValue := 0 }, { name := "initialErrStream", type := (.object "java/io/PrintStream"), accessFlags := 74, slot := 10, constantValue := 0 }, { name := "props", type := (.object "java/util/Properties"), accessFlags := 10, slot := 11, constantValue := 0 }, { name := "lineSeparator", type := (.object "java/lang/String"), accessFlags := 10, slot := 12, constantValue := 0 }, { name := "bootLayer", type := (.object "java/lang/ModuleLayer"), accessFlags := 8, slot := 13, constantValue := 0 }]
  methods := #[k6m0, k6m1]
  instanceTypes := #[]
  staticTypes := #[(.object "java/io/InputStream"), (.object "java/io/PrintStream"), (.object "java/io/PrintStream"), (.object "java/io/InputStream"), .int, .int, .int, (.object "java/lang/SecurityManager"), (.object "java/lang/String"), (.object "java/io/Console"), (.object "java/io/PrintStream"), (.object "java/util/Properties"), (.object "java/lang/String"), (.object "java/lang/ModuleLayer")]
  resolved := Array.replicate 834 none
  statics := none }

def pool7 : Array CpInfo := pool [(1, u "java/io/Serializable"), (0, .class_ 1), (0, u "java/lang/Object"), (0, .class_ 3)] 3

/-- java/io/Serializable -/
def k7 : Class := { plain "java/io/Serializable" (some 0) with
  accessFlags := 1537
  interfaces := #[]
  cf := some (fileOf pool7 2 #[] #[] 1537 4 #[] #[])
  fields := #[]
  methods := #[]
  instanceTypes := #[]
  staticTypes := #[]
  resolved := Array.replicate 8 none
  statics := none }

/-- the primitive boolean -/
def k8 : Class := { plain "boolean" none with kind := .primitive 'Z', accessFlags := 0x411 }
/-- [Z -/
def k9 : Class := { plain "[Z" (some 0) with kind := .array 8 .boolean, interfaces := #[3, 7], accessFlags := 1041 }

/-- the primitive byte -/
def k10 : Class := { plain "byte" none with kind := .primitive 'B', accessFlags := 0x411 }
/-- [B -/
def k11 : Class := { plain "[B" (some 0) with kind := .array 10 .byte, interfaces := #[3, 7], accessFlags := 1041 }

/-- the primitive int -/
def k12 : Class := { plain "int" none with kind := .primitive 'I', accessFlags := 0x411 }
/-- [I -/
def k13 : Class := { plain "[I" (some 0) with kind := .array 12 .int, interfaces := #[3, 7], accessFlags := 1041 }

def heap : Heap := #[]
/-- the primitive double -/
def k14 : Class := { plain "double" none with kind := .primitive 'D', accessFlags := 0x411 }
/-- [D -/
def k15 : Class := { plain "[D" (some 0) with kind := .array 14 .double, interfaces := #[3, 7], accessFlags := 1041 }
/-- [[D -/
def k16 : Class := { plain "[[D" (some 0) with kind := .array 15 (.array .double), interfaces := #[3, 7], accessFlags := 1041 }
def classes : Array Class := #[k0, k1, k2, k3, k4, k5, k6, k7, k8, k9, k10, k11, k12, k13, k14, k15, k16]
def interned : List (Array UInt16 × Addr) := []
def slotsUsed : Nat := 0
def theMethod : MethodId := ⟨1, 1⟩
def args0 : Array Value := #[.int 5, .int 5, .int 5, .int 5, .int 5, .int 5]
def aboutOver (below : List Frame) : State where
  vm := { classes := classes, interned := interned.toArray }
  heap := heap
  slotsUsed := slotsUsed
  threads := #[{ frames := .invoking theMethod args0 :: below }]
def below0 : List Frame := [.native { method := ⟨0, 0⟩, args := #[] }]
def about1 : State := aboutOver below0
def p0 : Program := .bare "" "" ""
def e0 : Env := launch0.env 0 0 0
theorem w_frames : about1.frames = Frame.invoking theMethod args0 :: below0 := rfl
set_option maxRecDepth 65536 in
theorem w_args : argsFit about1.vm theMethod args0 = true := by decide +kernel
set_option maxRecDepth 65536 in
theorem w_heap : heapFits about1 = true := by decide +kernel
set_option maxRecDepth 65536 in
theorem w_runnable : about1.curStatus? = some .runnable := by decide +kernel
set_option maxRecDepth 65536 in
theorem w_alone : about1.alone = true := by decide +kernel
set_option maxRecDepth 65536 in
theorem w_named : about1.methodNamed? x = some theMethod := by decide +kernel
set_option maxRecDepth 65536 in
theorem w_hears : about1.hears theMethod below0 = true := by decide +kernel
set_option maxRecDepth 65536 in
theorem w_ripe : about1.ripe theMethod args0 below0 = true := by decide +kernel
theorem w_running : about1.status = .running := rfl
set_option maxRecDepth 65536 in
theorem w_room : about1.hasRoom e0.platform room_1 = true :=
  launch0.hasRoom_least _ room_1 (by decide +kernel) (by decide +kernel) (by decide +kernel) (by decide +kernel) (by decide +kernel) (by decide +kernel)
theorem allAtoms_all (ts : List Jvm.Cond) (a : Array Jvm.Value) (st : Jvm.State) : (allAtoms ts).before a st = ts.all (fun c => c.before a st) := by
  induction ts with
  | nil => rfl
  | cons c t ih =>
    show (Jvm.Cond.and c (allAtoms t)).before a st = _
    rw [Jvm.Cond.before_and, ih, List.all_cons]
def words1 : List Jvm.Cond := Jvm.Cond.code x code maxLocals ret :: tables_1
/-- a 'code' word, met by the world's own term for the bytes: nothing is compared byte by byte -/
theorem code_word {y : MethodName} {bytes : ByteArray} {mx : Nat} {rt : Option FieldType} {a : Array Value} {s : State} {m : MethodId} {meth : Method} {c : Code} (h1 : s.methodNamed? y = some m) (h2 : s.vm.method? m = some meth) (h3 : meth.code = some c) (h4 : c.code = bytes)
    (h5 : (c.maxLocals == mx && c.exceptionTable.isEmpty && decide (c.maxStack ≤ mostOperands) && decide (meth.sig.returnType = rt) && !meth.locks && decide (parseMethodDescriptor y.desc = some meth.sig)) = true) : (Jvm.Cond.code y bytes mx rt).before a s = true := by
  simp only [Bool.and_eq_true, beq_iff_eq, Bool.not_eq_true', decide_eq_true_eq] at h5
  obtain ⟨⟨⟨⟨⟨g1, g2⟩, g3⟩, g4⟩, g5⟩, g6⟩ := h5
  simp [Cond.before, Cond.holds, Cond.value, h1, h2, h3, h4, g1, g2, g3, g4, g5, g6]
def isCode : Jvm.Cond → Bool
  | .code _ _ _ _ => true
  | _ => false
theorem all_split {L : List Jvm.Cond} {P : Jvm.Cond → Bool} (h1 : L.all (fun c => isCode c || P c) = true) (h2 : ∀ c ∈ L.filter isCode, P c = true) : L.all P = true := by
  refine List.all_eq_true.mpr fun c hc => ?_
  have h := List.all_eq_true.mp h1 c hc
  rcases Bool.eq_false_or_eq_true (isCode c) with hi | hi
  · exact h2 c (List.mem_filter.mpr ⟨hc, hi⟩)
  · simpa [hi] using h
set_option maxRecDepth 65536 in
theorem w_c0 : (Jvm.Cond.code x code maxLocals ret).before args0 about1 = true := code_word (m := ⟨1, 1⟩) (meth := k1m1) (c := k1c1) (by decide +kernel) rfl rfl rfl (by decide +kernel)
set_option maxRecDepth 65536 in
theorem w_c1 : (Jvm.Cond.code ({ cls := "com/example/composure/composure/select/Simplex", name := "<init>", desc := "([D)V" } : Jvm.MethodName) prog_72_method_1_code (2 : Nat) (Option.none : Option Jvm.ClassFile.FieldType)).before args0 about1 = true := code_word (m := ⟨2, 0⟩) (meth := k2m0) (c := k2c0) (by decide +kernel) rfl rfl rfl (by decide +kernel)
set_option maxRecDepth 65536 in
theorem w_c2 : (Jvm.Cond.code ({ cls := "java/lang/Object", name := "<init>", desc := "()V" } : Jvm.MethodName) object_method_1_code (1 : Nat) (Option.none : Option Jvm.ClassFile.FieldType)).before args0 about1 = true := code_word (m := ⟨0, 0⟩) (meth := k0m0) (c := k0c0) (by decide +kernel) rfl rfl rfl (by decide +kernel)
set_option maxRecDepth 65536 in
theorem w_c3 : (Jvm.Cond.code ({ cls := "java/util/Arrays", name := "fill", desc := "([II)V" } : Jvm.MethodName) jdk_65_method_103_code (4 : Nat) (Option.none : Option Jvm.ClassFile.FieldType)).before args0 about1 = true := code_word (m := ⟨4, 2⟩) (meth := k4m2) (c := k4c2) (by decide +kernel) rfl rfl rfl (by decide +kernel)
set_option maxRecDepth 65536 in
theorem w_c4 : (Jvm.Cond.code ({ cls := "com/example/composure/composure/select/Simplex", name := "add", desc := "([DD)I" } : Jvm.MethodName) prog_72_method_2_code (4 : Nat) (Option.some Jvm.ClassFile.FieldType.int)).before args0 about1 = true := code_word (m := ⟨2, 1⟩) (meth := k2m1) (c := k2c1) (by decide +kernel) rfl rfl rfl (by decide +kernel)
set_option maxRecDepth 65536 in
theorem w_c5 : (Jvm.Cond.code ({ cls := "com/example/composure/composure/select/Simplex", name := "start", desc := "([I)Z" } : Jvm.MethodName) prog_72_method_5_code (7 : Nat) (Option.some Jvm.ClassFile.FieldType.boolean)).before args0 about1 = true := code_word (m := ⟨2, 2⟩) (meth := k2m2) (c := k2c2) (by decide +kernel) rfl rfl rfl (by decide +kernel)
set_option maxRecDepth 65536 in
theorem w_c6 : (Jvm.Cond.code ({ cls := "com/example/composure/composure/select/Simplex", name := "invert", desc := "()Z" } : Jvm.MethodName) prog_72_method_14_code (11 : Nat) (Option.some Jvm.ClassFile.FieldType.boolean)).before args0 about1 = true := code_word (m := ⟨2, 5⟩) (meth := k2m5) (c := k2c5) (by decide +kernel) rfl rfl rfl (by decide +kernel)
set_option maxRecDepth 65536 in
theorem w_c7 : (Jvm.Cond.code ({ cls := "java/util/Arrays", name := "fill", desc := "([DIID)V" } : Jvm.MethodName) jdk_65_method_114_code (6 : Nat) (Option.none : Option Jvm.ClassFile.FieldType)).before args0 about1 = true := code_word (m := ⟨4, 3⟩) (meth := k4m3) (c := k4c3) (by decide +kernel) rfl rfl rfl (by decide +kernel)
set_option maxRecDepth 65536 in
theorem w_c8 : (Jvm.Cond.code ({ cls := "java/util/Arrays", name := "rangeCheck", desc := "(III)V" } : Jvm.MethodName) jdk_65_method_30_code (3 : Nat) (Option.none : Option Jvm.ClassFile.FieldType)).before args0 about1 = true := code_word (m := ⟨4, 1⟩) (meth := k4m1) (c := k4c1) (by decide +kernel) rfl rfl rfl (by decide +kernel)
set_option maxRecDepth 65536 in
theorem w_c9 : (Jvm.Cond.code ({ cls := "java/lang/Math", name := "abs", desc := "(D)D" } : Jvm.MethodName) jdk_29_method_64_code (2 : Nat) (Option.some Jvm.ClassFile.FieldType.double)).before args0 about1 = true := code_word (m := ⟨5, 1⟩) (meth := k5m1) (c := k5c1) (by decide +kernel) rfl rfl rfl (by decide +kernel)
set_option maxRecDepth 65536 in
theorem w_c10 : (Jvm.Cond.code ({ cls := "com/example/composure/composure/select/Simplex", name := "times", desc := "([D[D)V" } : Jvm.MethodName) prog_72_method_11_code (7 : Nat) (Option.none : Option Jvm.ClassFile.FieldType)).before args0 about1 = true := code_word (m := ⟨2, 4⟩) (meth := k2m4) (c := k2c4) (by decide +kernel) rfl rfl rfl (by decide +kernel)
set_option maxRecDepth 65536 in
theorem w_c11 : (Jvm.Cond.code ({ cls := "com/example/composure/composure/select/Simplex", name := "value", desc := "()D" } : Jvm.MethodName) prog_72_method_7_code (4 : Nat) (Option.some Jvm.ClassFile.FieldType.double)).before args0 about1 = true := code_word (m := ⟨2, 3⟩) (meth := k2m3) (c := k2c3) (by decide +kernel) rfl rfl rfl (by decide +kernel)
def codes1 : List Jvm.Cond := [Jvm.Cond.code x code maxLocals ret, Jvm.Cond.code ({ cls := "com/example/composure/composure/select/Simplex", name := "<init>", desc := "([D)V" } : Jvm.MethodName) prog_72_method_1_code (2 : Nat) (Option.none : Option Jvm.ClassFile.FieldType), Jvm.Cond.code ({ cls := "java/lang/Object", name := "<init>", desc := "()V" } : Jvm.MethodName) object_method_1_code (1 : Nat) (Option.none : Option Jvm.ClassFile.FieldType), Jvm.Cond.code ({ cls := "java/util/Arrays", name := "fill", desc := "([II)V" } : Jvm.MethodName) jdk_65_method_103_code (4 : Nat) (Option.none : Option Jvm.ClassFile.FieldType), Jvm.Cond.code ({ cls := "com/example/composure/composure/select/Simplex", name := "add", desc := "([DD)I" } : Jvm.MethodName) prog_72_method_2_code (4 : Nat) (Option.some Jvm.ClassFile.FieldType.int), Jvm.Cond.code ({ cls := "com/example/composure/composure/select/Simplex", name := "start", desc := "([I)Z" } : Jvm.MethodName) prog_72_method_5_code (7 : Nat) (Option.some Jvm.ClassFile.FieldType.boolean), Jvm.Cond.code ({ cls := "com/example/composure/composure/select/Simplex", name := "invert", desc := "()Z" } : Jvm.MethodName) prog_72_method_14_code (11 : Nat) (Option.some Jvm.ClassFile.FieldType.boolean), Jvm.Cond.code ({ cls := "java/util/Arrays", name := "fill", desc := "([DIID)V" } : Jvm.MethodName) jdk_65_method_114_code (6 : Nat) (Option.none : Option Jvm.ClassFile.FieldType), Jvm.Cond.code ({ cls := "java/util/Arrays", name := "rangeCheck", desc := "(III)V" } : Jvm.MethodName) jdk_65_method_30_code (3 : Nat) (Option.none : Option Jvm.ClassFile.FieldType), Jvm.Cond.code ({ cls := "java/lang/Math", name := "abs", desc := "(D)D" } : Jvm.MethodName) jdk_29_method_64_code (2 : Nat) (Option.some Jvm.ClassFile.FieldType.double), Jvm.Cond.code ({ cls := "com/example/composure/composure/select/Simplex", name := "times", desc := "([D[D)V" } : Jvm.MethodName) prog_72_method_11_code (7 : Nat) (Option.none : Option Jvm.ClassFile.FieldType), Jvm.Cond.code ({ cls := "com/example/composure/composure/select/Simplex", name := "value", desc := "()D" } : Jvm.MethodName) prog_72_method_7_code (4 : Nat) (Option.some Jvm.ClassFile.FieldType.double)]
set_option maxRecDepth 65536 in
theorem codes_eq : words1.filter isCode = codes1 := rfl
theorem w_codes : ∀ c ∈ words1.filter isCode, c.before args0 about1 = true := by
  rw [codes_eq]
  intro c hc
  simp only [codes1, List.mem_cons, List.not_mem_nil, or_false] at hc
  rcases hc with rfl | rfl | rfl | rfl | rfl | rfl | rfl | rfl | rfl | rfl | rfl | rfl
  · exact w_c0
  · exact w_c1
  · exact w_c2
  · exact w_c3
  · exact w_c4
  · exact w_c5
  · exact w_c6
  · exact w_c7
  · exact w_c8
  · exact w_c9
  · exact w_c10
  · exact w_c11
set_option maxRecDepth 65536 in
theorem w_t1 : (words1.take 24).all (fun c => isCode c || c.before args0 about1) = true := by decide +kernel
set_option maxRecDepth 65536 in
theorem w_t2 : ((words1.drop 24).take 24).all (fun c => isCode c || c.before args0 about1) = true := by decide +kernel
set_option maxRecDepth 65536 in
theorem w_t3 : (((words1.drop 24).drop 24).take 24).all (fun c => isCode c || c.before args0 about1) = true := by decide +kernel
set_option maxRecDepth 65536 in
theorem w_t4 : (((words1.drop 24).drop 24).drop 24).all (fun c => isCode c || c.before args0 about1) = true := by decide +kernel
theorem w_tables : (allAtoms (Jvm.Cond.code x code maxLocals ret :: tables_1)).before args0 about1 = true := by
  rw [allAtoms_all]
  show words1.all (fun c => c.before args0 about1) = true
  refine all_split ?_ w_codes
  rw [← List.take_append_drop 24 words1, List.all_append, w_t1, ← List.take_append_drop 24 (words1.drop 24), List.all_append, w_t2, ← List.take_append_drop 24 ((words1.drop 24).drop 24), List.all_append, w_t3, w_t4]
  rfl
set_option maxRecDepth 65536 in
theorem w_case : (Jvm.Cond.and given_1 narrow_1).before args0 about1 = true := by decide +kernel
theorem w_applies : (headSpec (Jvm.Cond.code x code maxLocals ret :: tables_1) room_1).applies x e0.platform about1 = true :=
  (Spec.applies_iff w_frames).mpr ⟨w_running, w_runnable, w_alone, w_named, w_hears, w_ripe, w_room, w_tables⟩
theorem atStart : AtStart classFile x code maxLocals ret World_1 tables_1 room_1 Calls_1 rest_1 Pre_1 launch0 p0 e0 about1 theMethod args0 below0 :=
  ⟨lists_1, trivial, launch0.admits_env _ _ _, launch0.least_env, fairChoices_fair.cas, fairChoices_fair.clock, w_frames, w_args, w_heap, w_applies, trivial, trivial, w_case⟩
end start1
theorem witness_1 : WitnessClaimed_1 := ⟨start1.p0, start1.e0, start1.about1, start1.theMethod, start1.args0, start1.below0, start1.atStart⟩
end Jvm.Pilot.@@N@@
