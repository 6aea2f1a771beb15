import JvmDerived
import JvmDerived.Pilot.@@N@@Statement
import JvmDerived.Pilot.@@N@@Code
set_option linter.unusedVariables false
set_option linter.unusedSimpArgs false
namespace Jvm.Pilot.@@N@@
open Jvm Jvm.ClassFile Sem Op Lib Jvm.Free Jvm.Stand Jvm.LawKit Jvm.RoadKit Bundle Jvm.Pilot.@@N@@.Jvm.D
theorem own_go {α β : Sort _} {A B : α → Prop} {P : α → β → Prop} (k : ∀ t, A t → B t) (h : ∃ t o, A t ∧ P t o) : ∃ t o, B t ∧ P t o := by
  obtain ⟨t, o, h1, h2⟩ := h
  exact ⟨t, o, k t h1, h2⟩
theorem own_abs {α β : Sort _} {A : α → Prop} {P : α → β → Prop} (h : ∀ P' : α → β → Prop, (∀ t o, P t o → P' t o) → ∃ t o, A t ∧ P' t o) : ∃ t o, A t ∧ P t o := h P fun _ _ q => q
theorem own_cat1 {v : Value} (h : v.isRef = true) : v.category = 1 := by rcases ref_cases h with rfl | ⟨_, rfl⟩ <;> rfl
theorem own_slot1 {v : Value} (h : v.isRef = true) : Slot.val v = .unset ∨ ∃ w, Slot.val v = .val w ∧ w.category = 1 := Or.inr ⟨v, rfl, own_cat1 h⟩
theorem own_nar {C : String} {w : Value} (h : w.isRef = true) : narrow (.object C) w = w := by rcases ref_cases h with rfl | ⟨_, rfl⟩ <;> rfl
def own_L (n : Nat) (f : Nat → Int32) : List Value := (List.range n).map fun k => Value.int (f k)
def own_cnt : Nat → (Nat → Bool) → Nat
  | 0, _ => 0
  | k + 1, q => own_cnt k q + (if q k then 1 else 0)
def own_g (nn : Nat → Nat) (i j : Nat) : Int32 := Int32.ofNat (own_cnt i fun t => decide (nn t + 1 = j))
def own_f (nn : Nat → Nat) (i j : Nat) : Int32 := Int32.ofNat (own_cnt i fun t => decide (nn t < j))
def own_s (nn : Nat → Nat) (i k j : Nat) : Int32 := if j ≤ k then own_f nn i j else own_g nn i j
def own_below (v i c u : Int32) : Int32 := if i < c then (if v < u then 1 else 0) else 0
def own_nn (a b c d : Nat) (t : Nat) : Nat := if t = 0 then a else if t = 1 then b else if t = 2 then c else d
theorem own_ti {k : Nat} (h : k < 2147483648) : (Int32.ofNat k).toInt = k := Int32.toInt_ofNat_small h
theorem own_cl {k : Nat} (h : k < 2147483648) : (Int32.ofNat k).toNatClampNeg = k := by simp only [Int32.toNatClampNeg, own_ti h]; rfl
theorem own_lt {i n : Nat} (hn : n < 2147483648) (h : i < n) : Int32.ofNat i < Int32.ofNat n := by rw [Int32.lt_iff_toInt_lt, own_ti hn, own_ti (by omega)]; omega
theorem own_nlt {i n : Nat} (hi : i < 2147483648) (h : n ≤ i) : ¬ Int32.ofNat i < Int32.ofNat n := by rw [Int32.lt_iff_toInt_lt, own_ti hi, own_ti (by omega)]; omega
theorem own_le {i n : Nat} (hi : i < 2147483648) (hn : n < 2147483648) (h : ¬ Int32.ofNat n < Int32.ofNat i) : i ≤ n := by rw [Int32.lt_iff_toInt_lt, own_ti hi, own_ti hn] at h; omega
theorem own_nn0 {i : Nat} (hi : i < 2147483648) : ¬ Int32.ofNat i < 0 := own_nlt hi (Nat.zero_le _)
theorem own_in {i n : Nat} (hn : n < 2147483648) (h : i < n) : ¬ Int32.ofNat i < 0 ∧ Int32.ofNat i < Int32.ofNat n := ⟨own_nn0 (by omega), own_lt hn h⟩
theorem own_succ (k : Nat) : Int32.ofNat k + (1 : Int32) = Int32.ofNat (k + 1) := (Int32.ofNat_add k 1).symm
theorem own_len (n : Nat) (f : Nat → Int32) : (own_L n f).length = n := by simp [own_L]
theorem own_get {n : Nat} {f : Nat → Int32} {i : Nat} (hi : i < 2147483648) (h : i < n) : (own_L n f).getD (Int32.ofNat i).toNatClampNeg (.int (0 : Int32)) = .int (f i) := by
  rw [own_cl hi]; simp [own_L, List.getD_eq_getElem?_getD, h]
theorem own_ext {n : Nat} {f g : Nat → Int32} (h : ∀ j, j < n → f j = g j) : own_L n f = own_L n g := by
  unfold own_L; exact List.map_congr_left fun k hk => by rw [h k (List.mem_range.mp hk)]
theorem own_set {n : Nat} {f : Nat → Int32} (k : Nat) (x : Int32) : (own_L n f).set k (.int x) = own_L n fun j => if j = k then x else f j := by
  refine List.ext_getElem? fun j => ?_
  rw [List.getElem?_set]
  by_cases hj : j < n
  · by_cases e : k = j
    · subst e; simp [own_L, hj]
    · have e' : ¬ j = k := fun q => e q.symm
      simp [own_L, hj, e, e']
  · by_cases e : k = j
    · subst e; simp [own_L, hj]
    · simp [own_L, hj, e]
theorem own_pad0 (n : Nat) (nn : Nat → Nat) : ∀ i, (own_L n (own_g nn 0)).getD i (.int (0 : Int32)) = ([] : List Value).getD i (.int (0 : Int32)) := fun i => by
  simp only [List.getD_eq_getElem?_getD]
  by_cases h : i < n
  · simp [own_L, h, own_g, own_cnt]
  · simp [own_L, h]
theorem own_setg (n : Nat) (nn : Nat → Nat) (i : Nat) : (own_L n (own_g nn i)).set (nn i + 1) (.int (own_g nn i (nn i + 1) + (1 : Int32))) = own_L n (own_g nn (i + 1)) := by
  rw [own_set]
  refine own_ext fun j _ => ?_
  by_cases e : j = nn i + 1
  · subst e; rw [if_pos rfl]; unfold own_g; rw [own_succ]; simp [own_cnt]
  · rw [if_neg e]; have e' : ¬ nn i + 1 = j := fun q => e q.symm
    simp [own_g, own_cnt, e']
theorem own_c0 (nn : Nat → Nat) : ∀ c, own_cnt c (fun t => decide (nn t + 1 = 0)) = 0 ∧ own_cnt c (fun t => decide (nn t < 0)) = 0
  | 0 => ⟨rfl, rfl⟩
  | c + 1 => by
    obtain ⟨h1, h2⟩ := own_c0 nn c
    simp only [own_cnt]
    rw [h1, h2]; simp
theorem own_c1 (nn : Nat → Nat) (k : Nat) : ∀ c, own_cnt c (fun t => decide (nn t + 1 = k + 1)) + own_cnt c (fun t => decide (nn t < k)) = own_cnt c (fun t => decide (nn t < k + 1))
  | 0 => rfl
  | c + 1 => by
    have := own_c1 nn k c
    simp only [own_cnt]
    by_cases h1 : nn c < k
    · have h2 : ¬ nn c + 1 = k + 1 := by omega
      have h3 : nn c < k + 1 := by omega
      simp only [h1, h2, h3, decide_true, decide_false, if_true]; simp at this ⊢; omega
    · by_cases h2 : nn c = k
      · have h3 : nn c < k + 1 := by omega
        have h4 : nn c + 1 = k + 1 := by omega
        simp only [h1, h3, h4, decide_true, decide_false, if_true]; simp at this ⊢; omega
      · have h3 : ¬ nn c < k + 1 := by omega
        have h4 : ¬ nn c + 1 = k + 1 := by omega
        simp only [h1, h3, h4, decide_false]; simp at this ⊢; omega
theorem own_s0 (n : Nat) (nn : Nat → Nat) (c : Nat) : own_L n (own_g nn c) = own_L n (own_s nn c 0) := own_ext fun j _ => by
  unfold own_s
  by_cases h : j ≤ 0
  · obtain rfl : j = 0 := by omega
    rw [if_pos h]; unfold own_g own_f; rw [(own_c0 nn c).1, (own_c0 nn c).2]
  · rw [if_neg h]
theorem own_sets (n : Nat) (nn : Nat → Nat) (c k : Nat) : (own_L n (own_s nn c k)).set (k + 1) (.int (own_s nn c k (k + 1) + own_s nn c k k)) = own_L n (own_s nn c (k + 1)) := by
  rw [own_set]
  refine own_ext fun j _ => ?_
  by_cases e : j = k + 1
  · subst e
    rw [if_pos rfl]
    have e1 : own_s nn c k (k + 1) = own_g nn c (k + 1) := if_neg (by omega)
    have e2 : own_s nn c k k = own_f nn c k := if_pos (Nat.le_refl _)
    have e3 : own_s nn c (k + 1) (k + 1) = own_f nn c (k + 1) := if_pos (Nat.le_refl _)
    rw [e1, e2, e3]; unfold own_g own_f; rw [← Int32.ofNat_add, own_c1]
  · rw [if_neg e]; unfold own_s
    by_cases h : j ≤ k
    · rw [if_pos h, if_pos (by omega)]
    · rw [if_neg h, if_neg (by omega)]
theorem own_sf (n : Nat) (nn : Nat → Nat) (c : Nat) : own_L (n + 1) (own_s nn c n) = own_L (n + 1) (own_f nn c) := own_ext fun j hj => if_pos (by omega)
theorem own_lit (a b c d : Nat) : own_L 4 (fun t => Int32.ofNat (own_nn a b c d t)) = [.int (Int32.ofNat a), .int (Int32.ofNat b), .int (Int32.ofNat c), .int (Int32.ofNat d)] := rfl
theorem own_want {nn : Nat → Nat} {c u : Nat} (hc : c ≤ 4) (hu : u < 100) (hn : ∀ t, t < c → nn t < 100) :
    own_f nn c u = (((own_below (Int32.ofNat (nn 0)) (0 : Int32) (Int32.ofNat c) (Int32.ofNat u) + own_below (Int32.ofNat (nn 1)) (1 : Int32) (Int32.ofNat c) (Int32.ofNat u)) + own_below (Int32.ofNat (nn 2)) (2 : Int32) (Int32.ofNat c) (Int32.ofNat u)) + own_below (Int32.ofNat (nn 3)) (3 : Int32) (Int32.ofNat c) (Int32.ofNat u)) := by
  have key : ∀ t : Nat, t < 4 → own_below (Int32.ofNat (nn t)) (Int32.ofNat t) (Int32.ofNat c) (Int32.ofNat u) = Int32.ofNat (if t < c then (if nn t < u then 1 else 0) else 0) := fun t ht => by
    unfold own_below
    by_cases h : t < c
    · rw [if_pos (own_lt (by omega) h), if_pos h]
      by_cases h2 : nn t < u
      · rw [if_pos (own_lt (by omega) h2), if_pos h2]; rfl
      · rw [if_neg (own_nlt (by have := hn t h; omega) (by omega)), if_neg h2]; rfl
    · rw [if_neg (own_nlt (by omega) (by omega)), if_neg h]; rfl
  have k0 := key 0 (by decide)
  have k1 := key 1 (by decide)
  have k2 := key 2 (by decide)
  have k3 := key 3 (by decide)
  have e0 : Int32.ofNat 0 = 0 := rfl
  have e1 : Int32.ofNat 1 = 1 := rfl
  have e2 : Int32.ofNat 2 = 2 := rfl
  have e3 : Int32.ofNat 3 = 3 := rfl
  rw [e0] at k0; rw [e1] at k1; rw [e2] at k2; rw [e3] at k3
  rw [k0, k1, k2, k3, ← Int32.ofNat_add, ← Int32.ofNat_add, ← Int32.ofNat_add]
  unfold own_f
  congr 1
  have hc' : c = 0 ∨ c = 1 ∨ c = 2 ∨ c = 3 ∨ c = 4 := by omega
  rcases hc' with rfl | rfl | rfl | rfl | rfl <;> simp [own_cnt]
theorem own_mod5 (x : Int32) : ∃ k : Nat, (x &&& (7 : Int32)) % (5 : Int32) = Int32.ofNat k ∧ k ≤ 4 := by
  have e := c_mask x 7 3 (by decide) (by decide)
  have p : ((2 ^ 3 : Nat) : Int) = 8 := rfl
  rw [p] at e
  have r := (c_irem (x &&& 7) 5 5 rfl).1 (by omega)
  refine ⟨((x &&& 7) % 5).toInt.toNat, Int32.toInt_inj.mp ?_, by omega⟩
  rw [own_ti (by omega)]; omega
theorem own_modm (x : Int32) {m : Nat} (h1 : 1 ≤ m) (h2 : m ≤ 4) : ∃ k : Nat, (x &&& (2147483647 : Int32)) % (Int32.ofNat m) = Int32.ofNat k ∧ k < m := by
  have e := (c_and x 2147483647 (by decide)).1
  have r := (c_irem (x &&& 2147483647) (Int32.ofNat m) m (own_ti (by omega))).1 e
  have q1 := Int.emod_nonneg (x &&& 2147483647).toInt (b := (m : Int)) (by omega)
  have q2 := Int.emod_lt_of_pos (x &&& 2147483647).toInt (b := (m : Int)) (by omega)
  refine ⟨((x &&& 2147483647) % (Int32.ofNat m)).toInt.toNat, Int32.toInt_inj.mp ?_, by omega⟩
  rw [own_ti (by omega)]; omega
theorem own_ne0 {m : Nat} (h1 : 1 ≤ m) (h2 : m ≤ 4) : Int32.ofNat m ≠ 0 := fun q => by
  have := congrArg Int32.toInt q; rw [own_ti (by omega)] at this; have z : (0 : Int32).toInt = 0 := rfl
  omega
theorem own_d_prog_61_method_2_code_0 : decode prog_61_method_2_code 0 = .ok (.iload_n 0, 1) := by decide +kernel
theorem own_d_prog_61_method_2_code_1 : decode prog_61_method_2_code 1 = .ok (.iconst 1, 1) := by decide +kernel
theorem own_d_prog_61_method_2_code_2 : decode prog_61_method_2_code 2 = .ok (.iadd, 1) := by decide +kernel
theorem own_d_prog_61_method_2_code_3 : decode prog_61_method_2_code 3 = .ok (.newarray .int, 2) := by decide +kernel
theorem own_d_prog_61_method_2_code_5 : decode prog_61_method_2_code 5 = .ok (.astore_n 3, 1) := by decide +kernel
theorem own_d_prog_61_method_2_code_6 : decode prog_61_method_2_code 6 = .ok (.iconst 0, 1) := by decide +kernel
theorem own_d_prog_61_method_2_code_7 : decode prog_61_method_2_code 7 = .ok (.istore 4, 2) := by decide +kernel
theorem own_d_prog_61_method_2_code_9 : decode prog_61_method_2_code 9 = .ok (.iload 4, 2) := by decide +kernel
theorem own_d_prog_61_method_2_code_11 : decode prog_61_method_2_code 11 = .ok (.iload_n 2, 1) := by decide +kernel
theorem own_d_prog_61_method_2_code_12 : decode prog_61_method_2_code 12 = .ok (.if_icmp .ge 21, 3) := by decide +kernel
theorem own_d_prog_61_method_2_code_33 : decode prog_61_method_2_code 33 = .ok (.iconst 0, 1) := by decide +kernel
theorem own_d_prog_61_method_2_code_34 : decode prog_61_method_2_code 34 = .ok (.istore 4, 2) := by decide +kernel
theorem own_d_prog_61_method_2_code_36 : decode prog_61_method_2_code 36 = .ok (.iload 4, 2) := by decide +kernel
theorem own_d_prog_61_method_2_code_38 : decode prog_61_method_2_code 38 = .ok (.iload_n 0, 1) := by decide +kernel
theorem own_d_prog_61_method_2_code_39 : decode prog_61_method_2_code 39 = .ok (.if_icmp .ge 22, 3) := by decide +kernel
theorem own_d_prog_61_method_2_code_61 : decode prog_61_method_2_code 61 = .ok (.aload_n 3, 1) := by decide +kernel
theorem own_d_prog_61_method_2_code_62 : decode prog_61_method_2_code 62 = .ok (.areturn, 1) := by decide +kernel
theorem own_d_prog_61_method_2_code_42 : decode prog_61_method_2_code 42 = .ok (.aload_n 3, 1) := by decide +kernel
theorem own_d_prog_61_method_2_code_43 : decode prog_61_method_2_code 43 = .ok (.iload 4, 2) := by decide +kernel
theorem own_d_prog_61_method_2_code_45 : decode prog_61_method_2_code 45 = .ok (.iconst 1, 1) := by decide +kernel
theorem own_d_prog_61_method_2_code_46 : decode prog_61_method_2_code 46 = .ok (.iadd, 1) := by decide +kernel
theorem own_d_prog_61_method_2_code_47 : decode prog_61_method_2_code 47 = .ok (.dup2, 1) := by decide +kernel
theorem own_d_prog_61_method_2_code_48 : decode prog_61_method_2_code 48 = .ok (.iaload, 1) := by decide +kernel
theorem own_d_prog_61_method_2_code_49 : decode prog_61_method_2_code 49 = .ok (.aload_n 3, 1) := by decide +kernel
theorem own_d_prog_61_method_2_code_50 : decode prog_61_method_2_code 50 = .ok (.iload 4, 2) := by decide +kernel
theorem own_d_prog_61_method_2_code_52 : decode prog_61_method_2_code 52 = .ok (.iaload, 1) := by decide +kernel
theorem own_d_prog_61_method_2_code_53 : decode prog_61_method_2_code 53 = .ok (.iadd, 1) := by decide +kernel
theorem own_d_prog_61_method_2_code_54 : decode prog_61_method_2_code 54 = .ok (.iastore, 1) := by decide +kernel
theorem own_d_prog_61_method_2_code_55 : decode prog_61_method_2_code 55 = .ok (.iinc 4 1, 3) := by decide +kernel
theorem own_d_prog_61_method_2_code_58 : decode prog_61_method_2_code 58 = .ok (.goto (-22), 3) := by decide +kernel
theorem own_d_prog_61_method_2_code_15 : decode prog_61_method_2_code 15 = .ok (.aload_n 3, 1) := by decide +kernel
theorem own_d_prog_61_method_2_code_16 : decode prog_61_method_2_code 16 = .ok (.aload_n 1, 1) := by decide +kernel
theorem own_d_prog_61_method_2_code_17 : decode prog_61_method_2_code 17 = .ok (.iload 4, 2) := by decide +kernel
theorem own_d_prog_61_method_2_code_19 : decode prog_61_method_2_code 19 = .ok (.iaload, 1) := by decide +kernel
theorem own_d_prog_61_method_2_code_20 : decode prog_61_method_2_code 20 = .ok (.iconst 1, 1) := by decide +kernel
theorem own_d_prog_61_method_2_code_21 : decode prog_61_method_2_code 21 = .ok (.iadd, 1) := by decide +kernel
theorem own_d_prog_61_method_2_code_22 : decode prog_61_method_2_code 22 = .ok (.dup2, 1) := by decide +kernel
theorem own_d_prog_61_method_2_code_23 : decode prog_61_method_2_code 23 = .ok (.iaload, 1) := by decide +kernel
theorem own_d_prog_61_method_2_code_24 : decode prog_61_method_2_code 24 = .ok (.iconst 1, 1) := by decide +kernel
theorem own_d_prog_61_method_2_code_25 : decode prog_61_method_2_code 25 = .ok (.iadd, 1) := by decide +kernel
theorem own_d_prog_61_method_2_code_26 : decode prog_61_method_2_code 26 = .ok (.iastore, 1) := by decide +kernel
theorem own_d_prog_61_method_2_code_27 : decode prog_61_method_2_code 27 = .ok (.iinc 4 1, 3) := by decide +kernel
theorem own_d_prog_61_method_2_code_30 : decode prog_61_method_2_code 30 = .ok (.goto (-21), 3) := by decide +kernel
theorem own_ef_first (m : MethodId) (x0 : Int32) (x1 : Addr) (x2 : Int32) : entryFrame m #[(.int x0), (.ref x1), (.int x2)] 5 = mkF m 0 #[.val (.int x0), .val (.ref x1), .val (.int x2), .unset, .unset] [] := by first | (simp [entryFrame, mkF, argsToLocals, Value.category]; done) | rfl
def own_Q_first (Z : State) (pa : Addr) (nN cN : Nat) (nn : Nat → Nat) (ck : ClassId) (h0 : Heap) (n0 : Nat) (v : Option Value) (h : Heap) (L : List Loc) : Prop := ∃ (b : Addr) (kr : ClassId), v = some (.ref b) ∧ Fr n0 L ∧ Keep h0 h [] ∧ n0 ≤ b ∧ h0.size ≤ b ∧ Arv Z h b kr .int (Int32.ofNat (nN + 1)) (own_L (nN + 1) (own_f nn cN)) (.int (0 : Int32))
theorem own_pn_com_example_chronopath_chronopath_network_Network : plainName "com/example/chronopath/chronopath/network/Network" = true := by first | (simp [plainName, overriddenIn]; done) | decide +kernel
set_option maxRecDepth 65536 in
set_option maxHeartbeats 40000000 in
theorem own_rm_first (l : Launch) (Z : State) (a0 : Array Value) (hw : ∀ d ∈ tables_1, d.before a0 Z = true) (ws : List Jvm.Cond) (pa : Addr) (nN cN : Nat) (nn : Nat → Nat) (ck : ClassId) (h0 : Heap) (n0 : Nat) (Z0 : n0 ≤ h0.size) (hN4 : nN ≤ 4) (hc4 : cN ≤ 4) (hnn : ∀ t, t < cN → nn t < nN) (V0 : Arv Z h0 pa ck .int (4 : Int32) (own_L 4 (fun t => Int32.ofNat (nn t))) (.int (0 : Int32))) :
    MetFree l (⟨"com/example/chronopath/chronopath/network/Network", "firstSlots", "(I[II)[I"⟩ : MethodName) (head1 (Jvm.Cond.code (⟨"com/example/chronopath/chronopath/network/Network", "firstSlots", "(I[II)[I"⟩ : MethodName) prog_61_method_2_code 5 (some (.array .int)) :: ws) ({ frames := 0, cells := 1, slots := 5, locals := 0 } : Room)) (fun a U => a = #[(.int (Int32.ofNat nN)), (.ref pa), (.int (Int32.ofNat cN))] ∧ Z.Warmed39 U.vm ∧ U.heap = h0) (fun _ _ _ _ _ => True) (fun _ U o U' => ∃ v L, o = .returned v ∧ own_Q_first Z pa nN cN nn ck h0 n0 v U'.heap L ∧ FrameEnd U o U' L ({ frames := 0, cells := 1, slots := 5, locals := 0 } : Room).cells ({ frames := 0, cells := 1, slots := 5, locals := 0 } : Room).slots) := by
  refine MetFree.of_bodySF (plainFor_of_name own_pn_com_example_chronopath_chronopath_network_Network) hisR ?_
  intro p e s m args below meth c s₁ Bd hml0 hP hKq_
  obtain ⟨rfl, hZ, hh⟩ := hP
  have hx := Bd.exec
  have hby := Bd.bytes
  have hml : c.maxLocals = 5 := hml0
  have hown : s.vm.findClass "com/example/chronopath/chronopath/network/Network" = some m.cls := findClass_of_methodNamed Bd.named
  have hnm := (name_of_methodNamed Bd.named Bd.method).1
  have X0 : Stand p l e ({ frames := 0, cells := 1, slots := 5, locals := 0 } : Room) s m #[(.int (Int32.ofNat nN)), (.ref pa), (.int (Int32.ofNat cN))] below meth c s₁ [] 0 0 := Stand.of_body Bd
  have e0 : s₁.heap = h0 := by rw [← hh, Bd.state]; rfl
  have N0 := Fr.nil n0
  have pre0 : ∀ t, Steps p.tables e below (s₁.setTop (mkF m 0 #[.val (.int (Int32.ofNat nN)), .val (.ref pa), .val (.int (Int32.ofNat cN)), .unset, .unset] [])) t → Steps p.tables e below (s₁.setTop (entryFrame m #[(.int (Int32.ofNat nN)), (.ref pa), (.int (Int32.ofNat cN))] 5)) t := fun t k => castTop (own_ef_first m (Int32.ofNat nN) pa (Int32.ofNat cN)) k
  refine own_go pre0 ?_
  refine own_abs ?_
  intro Pf hPf
  have k1 : ∀ t, Steps p.tables e below (s₁.setTop (mkF m 3 #[.val (.int (Int32.ofNat nN)), .val (.ref pa), .val (.int (Int32.ofNat cN)), .unset, .unset] [(.int ((Int32.ofNat nN) + (1 : Int32)))])) t → Steps p.tables e below (s₁.setTop (mkF m 0 #[.val (.int (Int32.ofNat nN)), .val (.ref pa), .val (.int (Int32.ofNat cN)), .unset, .unset] [])) t := fun t k => by
    refine XS.iloadN X0.here hx rfl (hb hby own_d_prog_61_method_2_code_0) rfl ?_
    show Steps p.tables e below (s₁.setTop (mkF m 1 #[.val (.int (Int32.ofNat nN)), .val (.ref pa), .val (.int (Int32.ofNat cN)), .unset, .unset] [(.int (Int32.ofNat nN))])) _
    refine XS.iconst X0.here hx rfl (hb hby own_d_prog_61_method_2_code_1) ?_
    show Steps p.tables e below (s₁.setTop (mkF m 2 #[.val (.int (Int32.ofNat nN)), .val (.ref pa), .val (.int (Int32.ofNat cN)), .unset, .unset] [(.int (1 : Int32)), (.int (Int32.ofNat nN))])) _
    refine XS.iadd X0.here hx rfl (hb hby own_d_prog_61_method_2_code_2) rfl ?_
    show Steps p.tables e below (s₁.setTop (mkF m 3 #[.val (.int (Int32.ofNat nN)), .val (.ref pa), .val (.int (Int32.ofNat cN)), .unset, .unset] [(.int ((Int32.ofNat nN) + (1 : Int32)))])) _
    exact k
  refine own_go k1 ?_
  clear k1
  rw [own_succ nN]
  obtain ⟨T2, h2, k2, X2, e2, E2, A2, st2⟩ := newP X0 hx hZ (hw _ (List.mem_of_getElem? (i := 1) rfl)) e0 (g := (mkF m 3 #[.val (.int (Int32.ofNat nN)), .val (.ref pa), .val (.int (Int32.ofNat cN)), .unset, .unset] [(.int (Int32.ofNat (nN + 1)))])) rfl (hb hby own_d_prog_61_method_2_code_3) rfl (own_nn0 (by omega)) (cap := 5) (by rw [own_cl (by omega)]; omega) (by decide) (by decide) (by decide)
  obtain ⟨b2, g2⟩ : ∃ z, z = h0.size := ⟨_, rfl⟩
  rw [← g2] at A2 st2
  refine own_go st2 ?_
  have ne_pa_b2 : pa ≠ b2 := Nat.ne_of_lt (Nat.lt_of_lt_of_le V0.lt (Nat.le_of_eq g2.symm))
  have f2_0 : Arv Z h2 pa ck .int (4 : Int32) (own_L 4 (fun t => Int32.ofNat (nn t))) (.int (0 : Int32)) := V0.ext E2
  have g_b2 : n0 ≤ b2 := Nat.le_trans Z0 (Nat.le_of_eq g2.symm)
  have Z2 : n0 ≤ h2.size := Nat.le_trans Z0 E2.1
  have sz_b2 : h0.size ≤ b2 := Nat.le_trans (Keep.refl h0 []).1 (Nat.le_of_eq g2.symm)
  have K2 : Keep h0 h2 [] := (Keep.refl h0 []).ext E2
  have V2 : Arv Z h2 b2 k2 .int (Int32.ofNat (nN + 1)) [] (.int (0 : Int32)) := Arv.new A2 (own_nn0 (by omega))
  have k3 : ∀ t, Steps p.tables e below (T2.setTop (mkF m 9 #[.val (.int (Int32.ofNat nN)), .val (.ref pa), .val (.int (Int32.ofNat cN)), .val (.ref b2), .val (.int (0 : Int32))] [])) t → Steps p.tables e below (T2.setTop (mkF m 5 #[.val (.int (Int32.ofNat nN)), .val (.ref pa), .val (.int (Int32.ofNat cN)), .unset, .unset] [(.ref b2)])) t := fun t k => by
    refine XS.astoreN X2.here hx rfl (hb hby own_d_prog_61_method_2_code_5) rfl rfl (l' := #[.val (.int (Int32.ofNat nN)), .val (.ref pa), .val (.int (Int32.ofNat cN)), .val (.ref b2), .unset]) rfl ?_
    show Steps p.tables e below (T2.setTop (mkF m 6 #[.val (.int (Int32.ofNat nN)), .val (.ref pa), .val (.int (Int32.ofNat cN)), .val (.ref b2), .unset] [])) _
    refine XS.iconst X2.here hx rfl (hb hby own_d_prog_61_method_2_code_6) ?_
    show Steps p.tables e below (T2.setTop (mkF m 7 #[.val (.int (Int32.ofNat nN)), .val (.ref pa), .val (.int (Int32.ofNat cN)), .val (.ref b2), .unset] [(.int (0 : Int32))])) _
    refine XS.istore X2.here hx rfl (hb hby own_d_prog_61_method_2_code_7) rfl (l' := #[.val (.int (Int32.ofNat nN)), .val (.ref pa), .val (.int (Int32.ofNat cN)), .val (.ref b2), .val (.int (0 : Int32))]) rfl ?_
    show Steps p.tables e below (T2.setTop (mkF m 9 #[.val (.int (Int32.ofNat nN)), .val (.ref pa), .val (.int (Int32.ofNat cN)), .val (.ref b2), .val (.int (0 : Int32))] [])) _
    exact k
  refine own_go k3 ?_
  clear k3
  have Vp : Arv Z h2 b2 k2 .int (Int32.ofNat (nN + 1)) (own_L (nN + 1) (own_g nn 0)) (.int (0 : Int32)) := V2.pad (own_pad0 _ nn)
  have lp1 : ∀ (n1 i1 : Nat) (T1 : State) (locs1 : List Loc) (h1 : Heap) (r1 : i1 + n1 = cN) (X1 : Stand p l e ({ frames := 0, cells := 1, slots := 5, locals := 0 } : Room) s m #[(.int (Int32.ofNat nN)), (.ref pa), (.int (Int32.ofNat cN))] below meth c T1 locs1 1 5) (e1 : T1.heap = h1) (N1 : Fr n0 locs1) (Z1 : n0 ≤ h1.size) (K1 : Keep h0 h1 []) (f1_0 : Arv Z h1 pa ck .int (4 : Int32) (own_L 4 (fun t => Int32.ofNat (nn t))) (.int (0 : Int32))) (f1_1 : Arv Z h1 b2 k2 .int (Int32.ofNat (nN + 1)) (own_L (nN + 1) (own_g nn i1)) (.int (0 : Int32))), ∃ t o, Steps p.tables e below (T1.setTop (mkF m 9 #[.val (.int (Int32.ofNat nN)), .val (.ref pa), .val (.int (Int32.ofNat cN)), .val (.ref b2), .val (.int (Int32.ofNat i1))] [])) t ∧ Pf t o := by
    intro n1
    induction n1 with
    | zero =>
      intro i1 T1 locs1 h1 r1 X1 e1 N1 Z1 K1 f1_0 f1_1
      have hi1 : i1 = cN := by omega
      have k4 : ∀ t, Steps p.tables e below (T1.setTop (mkF m 36 #[.val (.int (Int32.ofNat nN)), .val (.ref pa), .val (.int (Int32.ofNat cN)), .val (.ref b2), .val (.int (0 : Int32))] [])) t → Steps p.tables e below (T1.setTop (mkF m 9 #[.val (.int (Int32.ofNat nN)), .val (.ref pa), .val (.int (Int32.ofNat cN)), .val (.ref b2), .val (.int (Int32.ofNat i1))] [])) t := fun t k => by
        refine XS.iload X1.here hx rfl (hb hby own_d_prog_61_method_2_code_9) rfl ?_
        show Steps p.tables e below (T1.setTop (mkF m 11 #[.val (.int (Int32.ofNat nN)), .val (.ref pa), .val (.int (Int32.ofNat cN)), .val (.ref b2), .val (.int (Int32.ofNat i1))] [(.int (Int32.ofNat i1))])) _
        refine XS.iloadN X1.here hx rfl (hb hby own_d_prog_61_method_2_code_11) rfl ?_
        show Steps p.tables e below (T1.setTop (mkF m 12 #[.val (.int (Int32.ofNat nN)), .val (.ref pa), .val (.int (Int32.ofNat cN)), .val (.ref b2), .val (.int (Int32.ofNat i1))] [(.int (Int32.ofNat cN)), (.int (Int32.ofNat i1))])) _
        refine XS.icmpYes X1.here hx rfl (pc0 := 12) (pc' := 33) rfl (hb hby own_d_prog_61_method_2_code_12) rfl (flt (own_nlt (by omega) (by omega))).2.1 (by decide) (by decide) ?_
        show Steps p.tables e below (T1.setTop (mkF m 33 #[.val (.int (Int32.ofNat nN)), .val (.ref pa), .val (.int (Int32.ofNat cN)), .val (.ref b2), .val (.int (Int32.ofNat i1))] [])) _
        refine XS.iconst X1.here hx rfl (hb hby own_d_prog_61_method_2_code_33) ?_
        show Steps p.tables e below (T1.setTop (mkF m 34 #[.val (.int (Int32.ofNat nN)), .val (.ref pa), .val (.int (Int32.ofNat cN)), .val (.ref b2), .val (.int (Int32.ofNat i1))] [(.int (0 : Int32))])) _
        refine XS.istore X1.here hx rfl (hb hby own_d_prog_61_method_2_code_34) rfl (l' := #[.val (.int (Int32.ofNat nN)), .val (.ref pa), .val (.int (Int32.ofNat cN)), .val (.ref b2), .val (.int (0 : Int32))]) rfl ?_
        show Steps p.tables e below (T1.setTop (mkF m 36 #[.val (.int (Int32.ofNat nN)), .val (.ref pa), .val (.int (Int32.ofNat cN)), .val (.ref b2), .val (.int (0 : Int32))] [])) _
        exact k
      refine own_go k4 ?_
      clear k4
      have lp2 : ∀ (n2 i2 : Nat) (T2 : State) (locs2 : List Loc) (h2 : Heap) (r2 : i2 + n2 = nN) (X2 : Stand p l e ({ frames := 0, cells := 1, slots := 5, locals := 0 } : Room) s m #[(.int (Int32.ofNat nN)), (.ref pa), (.int (Int32.ofNat cN))] below meth c T2 locs2 1 5) (e2 : T2.heap = h2) (N2 : Fr n0 locs2) (Z2 : n0 ≤ h2.size) (K2 : Keep h0 h2 []) (f2_0 : Arv Z h2 pa ck .int (4 : Int32) (own_L 4 (fun t => Int32.ofNat (nn t))) (.int (0 : Int32))) (f2_1 : Arv Z h2 b2 k2 .int (Int32.ofNat (nN + 1)) (own_L (nN + 1) (own_s nn cN i2)) (.int (0 : Int32))), ∃ t o, Steps p.tables e below (T2.setTop (mkF m 36 #[.val (.int (Int32.ofNat nN)), .val (.ref pa), .val (.int (Int32.ofNat cN)), .val (.ref b2), .val (.int (Int32.ofNat i2))] [])) t ∧ Pf t o := by
        intro n2
        induction n2 with
        | zero =>
          intro i2 T2 locs2 h2 r2 X2 e2 N2 Z2 K2 f2_0 f2_1
          have hi2 : i2 = nN := by omega
          have k5 : ∀ t, Steps p.tables e below (T2.setTop (mkF m 62 #[.val (.int (Int32.ofNat nN)), .val (.ref pa), .val (.int (Int32.ofNat cN)), .val (.ref b2), .val (.int (Int32.ofNat i2))] [(.ref b2)])) t → Steps p.tables e below (T2.setTop (mkF m 36 #[.val (.int (Int32.ofNat nN)), .val (.ref pa), .val (.int (Int32.ofNat cN)), .val (.ref b2), .val (.int (Int32.ofNat i2))] [])) t := fun t k => by
            refine XS.iload X2.here hx rfl (hb hby own_d_prog_61_method_2_code_36) rfl ?_
            show Steps p.tables e below (T2.setTop (mkF m 38 #[.val (.int (Int32.ofNat nN)), .val (.ref pa), .val (.int (Int32.ofNat cN)), .val (.ref b2), .val (.int (Int32.ofNat i2))] [(.int (Int32.ofNat i2))])) _
            refine XS.iloadN X2.here hx rfl (hb hby own_d_prog_61_method_2_code_38) rfl ?_
            show Steps p.tables e below (T2.setTop (mkF m 39 #[.val (.int (Int32.ofNat nN)), .val (.ref pa), .val (.int (Int32.ofNat cN)), .val (.ref b2), .val (.int (Int32.ofNat i2))] [(.int (Int32.ofNat nN)), (.int (Int32.ofNat i2))])) _
            refine XS.icmpYes X2.here hx rfl (pc0 := 39) (pc' := 61) rfl (hb hby own_d_prog_61_method_2_code_39) rfl (flt (own_nlt (by omega) (by omega))).2.1 (by decide) (by decide) ?_
            show Steps p.tables e below (T2.setTop (mkF m 61 #[.val (.int (Int32.ofNat nN)), .val (.ref pa), .val (.int (Int32.ofNat cN)), .val (.ref b2), .val (.int (Int32.ofNat i2))] [])) _
            refine XS.aloadN X2.here hx rfl (hb hby own_d_prog_61_method_2_code_61) rfl rfl ?_
            show Steps p.tables e below (T2.setTop (mkF m 62 #[.val (.int (Int32.ofNat nN)), .val (.ref pa), .val (.int (Int32.ofNat cN)), .val (.ref b2), .val (.int (Int32.ofNat i2))] [(.ref b2)])) _
            exact k
          refine own_go k5 ?_
          clear k5
          obtain ⟨fs, hr, hrun, hended, hW, hsame⟩ := X2.leave (v := some (.ref b2)) (fun h => by rw [Bd.returns] at h; cases h)
          refine ⟨_, _, retOut X2 hx Bd.returns rfl (Or.inr (Or.inr (Or.inr (Or.inr ⟨rfl, rfl, rfl⟩)))) (hb hby own_d_prog_61_method_2_code_62) hr, hPf _ _ ⟨hrun, hended, _, _, rfl, ?_, ⟨_, rfl⟩, hW, hsame.mono (by decide) (by decide)⟩⟩
          show own_Q_first Z pa nN cN nn ck h0 n0 _ T2.heap _
          rw [e2]
          exact ⟨b2, k2, rfl, N2, K2, g_b2, sz_b2, (by have q := f2_1; rw [hi2] at q; rw [← own_sf]; exact q)⟩
        | succ n2 ih2 =>
          intro i2 T2 locs2 h2 r2 X2 e2 N2 Z2 K2 f2_0 f2_1
          have hi2 : i2 < nN := by omega
          have k6 : ∀ t, Steps p.tables e below (T2.setTop (mkF m 47 #[.val (.int (Int32.ofNat nN)), .val (.ref pa), .val (.int (Int32.ofNat cN)), .val (.ref b2), .val (.int (Int32.ofNat i2))] [(.int ((Int32.ofNat i2) + (1 : Int32))), (.ref b2)])) t → Steps p.tables e below (T2.setTop (mkF m 36 #[.val (.int (Int32.ofNat nN)), .val (.ref pa), .val (.int (Int32.ofNat cN)), .val (.ref b2), .val (.int (Int32.ofNat i2))] [])) t := fun t k => by
            refine XS.iload X2.here hx rfl (hb hby own_d_prog_61_method_2_code_36) rfl ?_
            show Steps p.tables e below (T2.setTop (mkF m 38 #[.val (.int (Int32.ofNat nN)), .val (.ref pa), .val (.int (Int32.ofNat cN)), .val (.ref b2), .val (.int (Int32.ofNat i2))] [(.int (Int32.ofNat i2))])) _
            refine XS.iloadN X2.here hx rfl (hb hby own_d_prog_61_method_2_code_38) rfl ?_
            show Steps p.tables e below (T2.setTop (mkF m 39 #[.val (.int (Int32.ofNat nN)), .val (.ref pa), .val (.int (Int32.ofNat cN)), .val (.ref b2), .val (.int (Int32.ofNat i2))] [(.int (Int32.ofNat nN)), (.int (Int32.ofNat i2))])) _
            refine XS.icmpNo X2.here hx rfl (hb hby own_d_prog_61_method_2_code_39) rfl (tlt (own_lt (by omega) hi2)).2.1 ?_
            show Steps p.tables e below (T2.setTop (mkF m 42 #[.val (.int (Int32.ofNat nN)), .val (.ref pa), .val (.int (Int32.ofNat cN)), .val (.ref b2), .val (.int (Int32.ofNat i2))] [])) _
            refine XS.aloadN X2.here hx rfl (hb hby own_d_prog_61_method_2_code_42) rfl rfl ?_
            show Steps p.tables e below (T2.setTop (mkF m 43 #[.val (.int (Int32.ofNat nN)), .val (.ref pa), .val (.int (Int32.ofNat cN)), .val (.ref b2), .val (.int (Int32.ofNat i2))] [(.ref b2)])) _
            refine XS.iload X2.here hx rfl (hb hby own_d_prog_61_method_2_code_43) rfl ?_
            show Steps p.tables e below (T2.setTop (mkF m 45 #[.val (.int (Int32.ofNat nN)), .val (.ref pa), .val (.int (Int32.ofNat cN)), .val (.ref b2), .val (.int (Int32.ofNat i2))] [(.int (Int32.ofNat i2)), (.ref b2)])) _
            refine XS.iconst X2.here hx rfl (hb hby own_d_prog_61_method_2_code_45) ?_
            show Steps p.tables e below (T2.setTop (mkF m 46 #[.val (.int (Int32.ofNat nN)), .val (.ref pa), .val (.int (Int32.ofNat cN)), .val (.ref b2), .val (.int (Int32.ofNat i2))] [(.int (1 : Int32)), (.int (Int32.ofNat i2)), (.ref b2)])) _
            refine XS.iadd X2.here hx rfl (hb hby own_d_prog_61_method_2_code_46) rfl ?_
            show Steps p.tables e below (T2.setTop (mkF m 47 #[.val (.int (Int32.ofNat nN)), .val (.ref pa), .val (.int (Int32.ofNat cN)), .val (.ref b2), .val (.int (Int32.ofNat i2))] [(.int ((Int32.ofNat i2) + (1 : Int32))), (.ref b2)])) _
            exact k
          refine own_go k6 ?_
          clear k6
          rw [own_succ i2]
          have k7 : ∀ t, Steps p.tables e below (T2.setTop (mkF m 48 #[.val (.int (Int32.ofNat nN)), .val (.ref pa), .val (.int (Int32.ofNat cN)), .val (.ref b2), .val (.int (Int32.ofNat i2))] [(.int (Int32.ofNat (i2 + 1))), (.ref b2), (.int (Int32.ofNat (i2 + 1))), (.ref b2)])) t → Steps p.tables e below (T2.setTop (mkF m 47 #[.val (.int (Int32.ofNat nN)), .val (.ref pa), .val (.int (Int32.ofNat cN)), .val (.ref b2), .val (.int (Int32.ofNat i2))] [(.int (Int32.ofNat (i2 + 1))), (.ref b2)])) t := fun t k => by
            refine XT.dup2 X2.here hx rfl (hb hby own_d_prog_61_method_2_code_47) rfl rfl rfl ?_
            show Steps p.tables e below (T2.setTop (mkF m 48 #[.val (.int (Int32.ofNat nN)), .val (.ref pa), .val (.int (Int32.ofNat cN)), .val (.ref b2), .val (.int (Int32.ofNat i2))] [(.int (Int32.ofNat (i2 + 1))), (.ref b2), (.int (Int32.ofNat (i2 + 1))), (.ref b2)])) _
            exact k
          refine own_go k7 ?_
          clear k7
          obtain ⟨cl8, Ar8, -, S8, -, H8, -⟩ := id (f2_1)
          have hi8 : ¬ ((Int32.ofNat (i2 + 1)) < 0 ∨ cl8.slots.size ≤ ((Int32.ofNat (i2 + 1))).toNatClampNeg) := inb_of S8 (own_in (by omega) (by omega))
          have hv8 : cl8.slots[((Int32.ofNat (i2 + 1))).toNatClampNeg]? = some (.int (own_s nn cN i2 (i2 + 1))) := H8.at hi8 (own_get (by omega) (by omega))
          have k9 : ∀ t, Steps p.tables e below (T2.setTop (mkF m 52 #[.val (.int (Int32.ofNat nN)), .val (.ref pa), .val (.int (Int32.ofNat cN)), .val (.ref b2), .val (.int (Int32.ofNat i2))] [(.int (Int32.ofNat i2)), (.ref b2), (.int (own_s nn cN i2 (i2 + 1))), (.int (Int32.ofNat (i2 + 1))), (.ref b2)])) t → Steps p.tables e below (T2.setTop (mkF m 48 #[.val (.int (Int32.ofNat nN)), .val (.ref pa), .val (.int (Int32.ofNat cN)), .val (.ref b2), .val (.int (Int32.ofNat i2))] [(.int (Int32.ofNat (i2 + 1))), (.ref b2), (.int (Int32.ofNat (i2 + 1))), (.ref b2)])) t := fun t k => by
            refine X2.iaload hx (j := (Int32.ofNat (i2 + 1))) (v := (.int (own_s nn cN i2 (i2 + 1)))) (by rw [e2]; exact Ar8.1) (State.isArrayOf_alike hZ.alike Ar8.2.1) Ar8.2.2 hi8 hv8 (g := (mkF m 48 #[.val (.int (Int32.ofNat nN)), .val (.ref pa), .val (.int (Int32.ofNat cN)), .val (.ref b2), .val (.int (Int32.ofNat i2))] [(.int (Int32.ofNat (i2 + 1))), (.ref b2), (.int (Int32.ofNat (i2 + 1))), (.ref b2)])) rfl rfl (hb hby own_d_prog_61_method_2_code_48) _ ?_
            show Steps p.tables e below (T2.setTop (mkF m 49 #[.val (.int (Int32.ofNat nN)), .val (.ref pa), .val (.int (Int32.ofNat cN)), .val (.ref b2), .val (.int (Int32.ofNat i2))] [(.int (own_s nn cN i2 (i2 + 1))), (.int (Int32.ofNat (i2 + 1))), (.ref b2)])) _
            refine XS.aloadN X2.here hx rfl (hb hby own_d_prog_61_method_2_code_49) rfl rfl ?_
            show Steps p.tables e below (T2.setTop (mkF m 50 #[.val (.int (Int32.ofNat nN)), .val (.ref pa), .val (.int (Int32.ofNat cN)), .val (.ref b2), .val (.int (Int32.ofNat i2))] [(.ref b2), (.int (own_s nn cN i2 (i2 + 1))), (.int (Int32.ofNat (i2 + 1))), (.ref b2)])) _
            refine XS.iload X2.here hx rfl (hb hby own_d_prog_61_method_2_code_50) rfl ?_
            show Steps p.tables e below (T2.setTop (mkF m 52 #[.val (.int (Int32.ofNat nN)), .val (.ref pa), .val (.int (Int32.ofNat cN)), .val (.ref b2), .val (.int (Int32.ofNat i2))] [(.int (Int32.ofNat i2)), (.ref b2), (.int (own_s nn cN i2 (i2 + 1))), (.int (Int32.ofNat (i2 + 1))), (.ref b2)])) _
            exact k
          refine own_go k9 ?_
          clear k9
          obtain ⟨cl10, Ar10, -, S10, -, H10, -⟩ := id (f2_1)
          have hi10 : ¬ ((Int32.ofNat i2) < 0 ∨ cl10.slots.size ≤ ((Int32.ofNat i2)).toNatClampNeg) := inb_of S10 (own_in (by omega) (by omega))
          have hv10 : cl10.slots[((Int32.ofNat i2)).toNatClampNeg]? = some (.int (own_s nn cN i2 i2)) := H10.at hi10 (own_get (by omega) (by omega))
          have k11 : ∀ t, Steps p.tables e below (T2.setTop (mkF m 54 #[.val (.int (Int32.ofNat nN)), .val (.ref pa), .val (.int (Int32.ofNat cN)), .val (.ref b2), .val (.int (Int32.ofNat i2))] [(.int ((own_s nn cN i2 (i2 + 1)) + (own_s nn cN i2 i2))), (.int (Int32.ofNat (i2 + 1))), (.ref b2)])) t → Steps p.tables e below (T2.setTop (mkF m 52 #[.val (.int (Int32.ofNat nN)), .val (.ref pa), .val (.int (Int32.ofNat cN)), .val (.ref b2), .val (.int (Int32.ofNat i2))] [(.int (Int32.ofNat i2)), (.ref b2), (.int (own_s nn cN i2 (i2 + 1))), (.int (Int32.ofNat (i2 + 1))), (.ref b2)])) t := fun t k => by
            refine X2.iaload hx (j := (Int32.ofNat i2)) (v := (.int (own_s nn cN i2 i2))) (by rw [e2]; exact Ar10.1) (State.isArrayOf_alike hZ.alike Ar10.2.1) Ar10.2.2 hi10 hv10 (g := (mkF m 52 #[.val (.int (Int32.ofNat nN)), .val (.ref pa), .val (.int (Int32.ofNat cN)), .val (.ref b2), .val (.int (Int32.ofNat i2))] [(.int (Int32.ofNat i2)), (.ref b2), (.int (own_s nn cN i2 (i2 + 1))), (.int (Int32.ofNat (i2 + 1))), (.ref b2)])) rfl rfl (hb hby own_d_prog_61_method_2_code_52) _ ?_
            show Steps p.tables e below (T2.setTop (mkF m 53 #[.val (.int (Int32.ofNat nN)), .val (.ref pa), .val (.int (Int32.ofNat cN)), .val (.ref b2), .val (.int (Int32.ofNat i2))] [(.int (own_s nn cN i2 i2)), (.int (own_s nn cN i2 (i2 + 1))), (.int (Int32.ofNat (i2 + 1))), (.ref b2)])) _
            refine XS.iadd X2.here hx rfl (hb hby own_d_prog_61_method_2_code_53) rfl ?_
            show Steps p.tables e below (T2.setTop (mkF m 54 #[.val (.int (Int32.ofNat nN)), .val (.ref pa), .val (.int (Int32.ofNat cN)), .val (.ref b2), .val (.int (Int32.ofNat i2))] [(.int ((own_s nn cN i2 (i2 + 1)) + (own_s nn cN i2 i2))), (.int (Int32.ofNat (i2 + 1))), (.ref b2)])) _
            exact k
          refine own_go k11 ?_
          clear k11
          obtain ⟨cl12, Ar12, q12, S12, N12, H12, G12⟩ := id (f2_1)
          have hi12 : ¬ ((Int32.ofNat (i2 + 1)) < 0 ∨ cl12.slots.size ≤ ((Int32.ofNat (i2 + 1))).toNatClampNeg) := inb_of S12 (own_in (by omega) (by omega))
          obtain ⟨T13, h13, X13, e13, W13, st13⟩ := stI X2 hx hZ e2 Ar12 (j := (Int32.ofNat (i2 + 1))) hi12 (g := (mkF m 54 #[.val (.int (Int32.ofNat nN)), .val (.ref pa), .val (.int (Int32.ofNat cN)), .val (.ref b2), .val (.int (Int32.ofNat i2))] [(.int ((own_s nn cN i2 (i2 + 1)) + (own_s nn cN i2 i2))), (.int (Int32.ofNat (i2 + 1))), (.ref b2)])) rfl rfl (hb hby own_d_prog_61_method_2_code_54)
          refine own_go st13 ?_
          have V13 : Arv Z h13 b2 k2 .int (Int32.ofNat (nN + 1)) ((own_L (nN + 1) (own_s nn cN i2)).set (i2 + 1) (.int ((own_s nn cN i2 (i2 + 1)) + (own_s nn cN i2 i2)))) (.int (0 : Int32)) := Arv.set Ar12 q12 S12 N12 H12 G12 rfl W13 (i2 + 1) (own_cl (by omega)) (by rw [own_len]; omega)
          have V13b : Arv Z h13 b2 k2 .int (Int32.ofNat (nN + 1)) (own_L (nN + 1) (own_s nn cN (i2 + 1))) (.int (0 : Int32)) := by rw [← own_sets (nN + 1) nn cN i2]; exact V13
          have f13_0 : Arv Z h13 pa ck .int (4 : Int32) (own_L 4 (fun t => Int32.ofNat (nn t))) (.int (0 : Int32)) := f2_0.other W13 (ne_pa_b2)
          have f13_1 : Arv Z h13 b2 k2 .int (Int32.ofNat (nN + 1)) (own_L (nN + 1) (own_s nn cN (i2 + 1))) (.int (0 : Int32)) := V13b
          have N13 := Fr.snoc X13 N2 g_b2
          have Z13 : n0 ≤ h13.size := Nat.le_trans Z2 (Keep.of_wr W13).1
          have K13 : Keep h0 h13 [] := K2.wr W13 (Or.inr sz_b2)
          have k14 : ∀ t, Steps p.tables e below (T13.setTop (mkF m 36 #[.val (.int (Int32.ofNat nN)), .val (.ref pa), .val (.int (Int32.ofNat cN)), .val (.ref b2), .val (.int ((Int32.ofNat i2) + (1 : Int32)))] [])) t → Steps p.tables e below (T13.setTop (mkF m 55 #[.val (.int (Int32.ofNat nN)), .val (.ref pa), .val (.int (Int32.ofNat cN)), .val (.ref b2), .val (.int (Int32.ofNat i2))] [])) t := fun t k => by
            refine XS.iinc X13.here hx rfl (hb hby own_d_prog_61_method_2_code_55) rfl (l' := #[.val (.int (Int32.ofNat nN)), .val (.ref pa), .val (.int (Int32.ofNat cN)), .val (.ref b2), .val (.int ((Int32.ofNat i2) + (1 : Int32)))]) rfl ?_
            show Steps p.tables e below (T13.setTop (mkF m 58 #[.val (.int (Int32.ofNat nN)), .val (.ref pa), .val (.int (Int32.ofNat cN)), .val (.ref b2), .val (.int ((Int32.ofNat i2) + (1 : Int32)))] [])) _
            refine XS.goto X13.here hx rfl (pc0 := 58) (pc' := 36) rfl (hb hby own_d_prog_61_method_2_code_58) (by decide) (by decide) ?_
            show Steps p.tables e below (T13.setTop (mkF m 36 #[.val (.int (Int32.ofNat nN)), .val (.ref pa), .val (.int (Int32.ofNat cN)), .val (.ref b2), .val (.int ((Int32.ofNat i2) + (1 : Int32)))] [])) _
            exact k
          refine own_go k14 ?_
          clear k14
          rw [own_succ i2]
          exact ih2 (i2 + 1) _ _ _ (by omega) X13 e13 N13 Z13 K13 f13_0 f13_1
      exact lp2 nN 0 _ _ _ (by omega) X1 e1 N1 Z1 K1 f1_0 (by rw [← own_s0, ← hi1]; exact f1_1)
    | succ n1 ih1 =>
      intro i1 T1 locs1 h1 r1 X1 e1 N1 Z1 K1 f1_0 f1_1
      have hi1 : i1 < cN := by omega
      have k15 : ∀ t, Steps p.tables e below (T1.setTop (mkF m 19 #[.val (.int (Int32.ofNat nN)), .val (.ref pa), .val (.int (Int32.ofNat cN)), .val (.ref b2), .val (.int (Int32.ofNat i1))] [(.int (Int32.ofNat i1)), (.ref pa), (.ref b2)])) t → Steps p.tables e below (T1.setTop (mkF m 9 #[.val (.int (Int32.ofNat nN)), .val (.ref pa), .val (.int (Int32.ofNat cN)), .val (.ref b2), .val (.int (Int32.ofNat i1))] [])) t := fun t k => by
        refine XS.iload X1.here hx rfl (hb hby own_d_prog_61_method_2_code_9) rfl ?_
        show Steps p.tables e below (T1.setTop (mkF m 11 #[.val (.int (Int32.ofNat nN)), .val (.ref pa), .val (.int (Int32.ofNat cN)), .val (.ref b2), .val (.int (Int32.ofNat i1))] [(.int (Int32.ofNat i1))])) _
        refine XS.iloadN X1.here hx rfl (hb hby own_d_prog_61_method_2_code_11) rfl ?_
        show Steps p.tables e below (T1.setTop (mkF m 12 #[.val (.int (Int32.ofNat nN)), .val (.ref pa), .val (.int (Int32.ofNat cN)), .val (.ref b2), .val (.int (Int32.ofNat i1))] [(.int (Int32.ofNat cN)), (.int (Int32.ofNat i1))])) _
        refine XS.icmpNo X1.here hx rfl (hb hby own_d_prog_61_method_2_code_12) rfl (tlt (own_lt (by omega) hi1)).2.1 ?_
        show Steps p.tables e below (T1.setTop (mkF m 15 #[.val (.int (Int32.ofNat nN)), .val (.ref pa), .val (.int (Int32.ofNat cN)), .val (.ref b2), .val (.int (Int32.ofNat i1))] [])) _
        refine XS.aloadN X1.here hx rfl (hb hby own_d_prog_61_method_2_code_15) rfl rfl ?_
        show Steps p.tables e below (T1.setTop (mkF m 16 #[.val (.int (Int32.ofNat nN)), .val (.ref pa), .val (.int (Int32.ofNat cN)), .val (.ref b2), .val (.int (Int32.ofNat i1))] [(.ref b2)])) _
        refine XS.aloadN X1.here hx rfl (hb hby own_d_prog_61_method_2_code_16) rfl rfl ?_
        show Steps p.tables e below (T1.setTop (mkF m 17 #[.val (.int (Int32.ofNat nN)), .val (.ref pa), .val (.int (Int32.ofNat cN)), .val (.ref b2), .val (.int (Int32.ofNat i1))] [(.ref pa), (.ref b2)])) _
        refine XS.iload X1.here hx rfl (hb hby own_d_prog_61_method_2_code_17) rfl ?_
        show Steps p.tables e below (T1.setTop (mkF m 19 #[.val (.int (Int32.ofNat nN)), .val (.ref pa), .val (.int (Int32.ofNat cN)), .val (.ref b2), .val (.int (Int32.ofNat i1))] [(.int (Int32.ofNat i1)), (.ref pa), (.ref b2)])) _
        exact k
      refine own_go k15 ?_
      clear k15
      obtain ⟨cl16, Ar16, -, S16, -, H16, -⟩ := id (f1_0)
      have hi16 : ¬ ((Int32.ofNat i1) < 0 ∨ cl16.slots.size ≤ ((Int32.ofNat i1)).toNatClampNeg) := inb_of S16 (own_in (n := 4) (by omega) (by omega))
      have hv16 : cl16.slots[((Int32.ofNat i1)).toNatClampNeg]? = some (.int (Int32.ofNat (nn i1))) := H16.at hi16 (own_get (by omega) (by omega))
      have k17 : ∀ t, Steps p.tables e below (T1.setTop (mkF m 22 #[.val (.int (Int32.ofNat nN)), .val (.ref pa), .val (.int (Int32.ofNat cN)), .val (.ref b2), .val (.int (Int32.ofNat i1))] [(.int ((Int32.ofNat (nn i1)) + (1 : Int32))), (.ref b2)])) t → Steps p.tables e below (T1.setTop (mkF m 19 #[.val (.int (Int32.ofNat nN)), .val (.ref pa), .val (.int (Int32.ofNat cN)), .val (.ref b2), .val (.int (Int32.ofNat i1))] [(.int (Int32.ofNat i1)), (.ref pa), (.ref b2)])) t := fun t k => by
        refine X1.iaload hx (j := (Int32.ofNat i1)) (v := (.int (Int32.ofNat (nn i1)))) (by rw [e1]; exact Ar16.1) (State.isArrayOf_alike hZ.alike Ar16.2.1) Ar16.2.2 hi16 hv16 (g := (mkF m 19 #[.val (.int (Int32.ofNat nN)), .val (.ref pa), .val (.int (Int32.ofNat cN)), .val (.ref b2), .val (.int (Int32.ofNat i1))] [(.int (Int32.ofNat i1)), (.ref pa), (.ref b2)])) rfl rfl (hb hby own_d_prog_61_method_2_code_19) _ ?_
        show Steps p.tables e below (T1.setTop (mkF m 20 #[.val (.int (Int32.ofNat nN)), .val (.ref pa), .val (.int (Int32.ofNat cN)), .val (.ref b2), .val (.int (Int32.ofNat i1))] [(.int (Int32.ofNat (nn i1))), (.ref b2)])) _
        refine XS.iconst X1.here hx rfl (hb hby own_d_prog_61_method_2_code_20) ?_
        show Steps p.tables e below (T1.setTop (mkF m 21 #[.val (.int (Int32.ofNat nN)), .val (.ref pa), .val (.int (Int32.ofNat cN)), .val (.ref b2), .val (.int (Int32.ofNat i1))] [(.int (1 : Int32)), (.int (Int32.ofNat (nn i1))), (.ref b2)])) _
        refine XS.iadd X1.here hx rfl (hb hby own_d_prog_61_method_2_code_21) rfl ?_
        show Steps p.tables e below (T1.setTop (mkF m 22 #[.val (.int (Int32.ofNat nN)), .val (.ref pa), .val (.int (Int32.ofNat cN)), .val (.ref b2), .val (.int (Int32.ofNat i1))] [(.int ((Int32.ofNat (nn i1)) + (1 : Int32))), (.ref b2)])) _
        exact k
      refine own_go k17 ?_
      clear k17
      rw [own_succ (nn i1)]
      have hni := hnn i1 hi1
      have k18 : ∀ t, Steps p.tables e below (T1.setTop (mkF m 23 #[.val (.int (Int32.ofNat nN)), .val (.ref pa), .val (.int (Int32.ofNat cN)), .val (.ref b2), .val (.int (Int32.ofNat i1))] [(.int (Int32.ofNat (nn i1 + 1))), (.ref b2), (.int (Int32.ofNat (nn i1 + 1))), (.ref b2)])) t → Steps p.tables e below (T1.setTop (mkF m 22 #[.val (.int (Int32.ofNat nN)), .val (.ref pa), .val (.int (Int32.ofNat cN)), .val (.ref b2), .val (.int (Int32.ofNat i1))] [(.int (Int32.ofNat (nn i1 + 1))), (.ref b2)])) t := fun t k => by
        refine XT.dup2 X1.here hx rfl (hb hby own_d_prog_61_method_2_code_22) rfl rfl rfl ?_
        show Steps p.tables e below (T1.setTop (mkF m 23 #[.val (.int (Int32.ofNat nN)), .val (.ref pa), .val (.int (Int32.ofNat cN)), .val (.ref b2), .val (.int (Int32.ofNat i1))] [(.int (Int32.ofNat (nn i1 + 1))), (.ref b2), (.int (Int32.ofNat (nn i1 + 1))), (.ref b2)])) _
        exact k
      refine own_go k18 ?_
      clear k18
      obtain ⟨cl19, Ar19, -, S19, -, H19, -⟩ := id (f1_1)
      have hi19 : ¬ ((Int32.ofNat (nn i1 + 1)) < 0 ∨ cl19.slots.size ≤ ((Int32.ofNat (nn i1 + 1))).toNatClampNeg) := inb_of S19 (own_in (by omega) (by omega))
      have hv19 : cl19.slots[((Int32.ofNat (nn i1 + 1))).toNatClampNeg]? = some (.int (own_g nn i1 (nn i1 + 1))) := H19.at hi19 (own_get (by omega) (by omega))
      have k20 : ∀ t, Steps p.tables e below (T1.setTop (mkF m 26 #[.val (.int (Int32.ofNat nN)), .val (.ref pa), .val (.int (Int32.ofNat cN)), .val (.ref b2), .val (.int (Int32.ofNat i1))] [(.int ((own_g nn i1 (nn i1 + 1)) + (1 : Int32))), (.int (Int32.ofNat (nn i1 + 1))), (.ref b2)])) t → Steps p.tables e below (T1.setTop (mkF m 23 #[.val (.int (Int32.ofNat nN)), .val (.ref pa), .val (.int (Int32.ofNat cN)), .val (.ref b2), .val (.int (Int32.ofNat i1))] [(.int (Int32.ofNat (nn i1 + 1))), (.ref b2), (.int (Int32.ofNat (nn i1 + 1))), (.ref b2)])) t := fun t k => by
        refine X1.iaload hx (j := (Int32.ofNat (nn i1 + 1))) (v := (.int (own_g nn i1 (nn i1 + 1)))) (by rw [e1]; exact Ar19.1) (State.isArrayOf_alike hZ.alike Ar19.2.1) Ar19.2.2 hi19 hv19 (g := (mkF m 23 #[.val (.int (Int32.ofNat nN)), .val (.ref pa), .val (.int (Int32.ofNat cN)), .val (.ref b2), .val (.int (Int32.ofNat i1))] [(.int (Int32.ofNat (nn i1 + 1))), (.ref b2), (.int (Int32.ofNat (nn i1 + 1))), (.ref b2)])) rfl rfl (hb hby own_d_prog_61_method_2_code_23) _ ?_
        show Steps p.tables e below (T1.setTop (mkF m 24 #[.val (.int (Int32.ofNat nN)), .val (.ref pa), .val (.int (Int32.ofNat cN)), .val (.ref b2), .val (.int (Int32.ofNat i1))] [(.int (own_g nn i1 (nn i1 + 1))), (.int (Int32.ofNat (nn i1 + 1))), (.ref b2)])) _
        refine XS.iconst X1.here hx rfl (hb hby own_d_prog_61_method_2_code_24) ?_
        show Steps p.tables e below (T1.setTop (mkF m 25 #[.val (.int (Int32.ofNat nN)), .val (.ref pa), .val (.int (Int32.ofNat cN)), .val (.ref b2), .val (.int (Int32.ofNat i1))] [(.int (1 : Int32)), (.int (own_g nn i1 (nn i1 + 1))), (.int (Int32.ofNat (nn i1 + 1))), (.ref b2)])) _
        refine XS.iadd X1.here hx rfl (hb hby own_d_prog_61_method_2_code_25) rfl ?_
        show Steps p.tables e below (T1.setTop (mkF m 26 #[.val (.int (Int32.ofNat nN)), .val (.ref pa), .val (.int (Int32.ofNat cN)), .val (.ref b2), .val (.int (Int32.ofNat i1))] [(.int ((own_g nn i1 (nn i1 + 1)) + (1 : Int32))), (.int (Int32.ofNat (nn i1 + 1))), (.ref b2)])) _
        exact k
      refine own_go k20 ?_
      clear k20
      obtain ⟨cl21, Ar21, q21, S21, N21, H21, G21⟩ := id (f1_1)
      have hi21 : ¬ ((Int32.ofNat (nn i1 + 1)) < 0 ∨ cl21.slots.size ≤ ((Int32.ofNat (nn i1 + 1))).toNatClampNeg) := inb_of S21 (own_in (by omega) (by omega))
      obtain ⟨T22, h22, X22, e22, W22, st22⟩ := stI X1 hx hZ e1 Ar21 (j := (Int32.ofNat (nn i1 + 1))) hi21 (g := (mkF m 26 #[.val (.int (Int32.ofNat nN)), .val (.ref pa), .val (.int (Int32.ofNat cN)), .val (.ref b2), .val (.int (Int32.ofNat i1))] [(.int ((own_g nn i1 (nn i1 + 1)) + (1 : Int32))), (.int (Int32.ofNat (nn i1 + 1))), (.ref b2)])) rfl rfl (hb hby own_d_prog_61_method_2_code_26)
      refine own_go st22 ?_
      have V22 : Arv Z h22 b2 k2 .int (Int32.ofNat (nN + 1)) ((own_L (nN + 1) (own_g nn i1)).set (nn i1 + 1) (.int ((own_g nn i1 (nn i1 + 1)) + (1 : Int32)))) (.int (0 : Int32)) := Arv.set Ar21 q21 S21 N21 H21 G21 rfl W22 (nn i1 + 1) (own_cl (by omega)) (by rw [own_len]; omega)
      have V22b : Arv Z h22 b2 k2 .int (Int32.ofNat (nN + 1)) (own_L (nN + 1) (own_g nn (i1 + 1))) (.int (0 : Int32)) := by rw [← own_setg (nN + 1) nn i1]; exact V22
      have f22_0 : Arv Z h22 pa ck .int (4 : Int32) (own_L 4 (fun t => Int32.ofNat (nn t))) (.int (0 : Int32)) := f1_0.other W22 (ne_pa_b2)
      have f22_1 : Arv Z h22 b2 k2 .int (Int32.ofNat (nN + 1)) (own_L (nN + 1) (own_g nn (i1 + 1))) (.int (0 : Int32)) := V22b
      have N22 := Fr.snoc X22 N1 g_b2
      have Z22 : n0 ≤ h22.size := Nat.le_trans Z1 (Keep.of_wr W22).1
      have K22 : Keep h0 h22 [] := K1.wr W22 (Or.inr sz_b2)
      have k23 : ∀ t, Steps p.tables e below (T22.setTop (mkF m 9 #[.val (.int (Int32.ofNat nN)), .val (.ref pa), .val (.int (Int32.ofNat cN)), .val (.ref b2), .val (.int ((Int32.ofNat i1) + (1 : Int32)))] [])) t → Steps p.tables e below (T22.setTop (mkF m 27 #[.val (.int (Int32.ofNat nN)), .val (.ref pa), .val (.int (Int32.ofNat cN)), .val (.ref b2), .val (.int (Int32.ofNat i1))] [])) t := fun t k => by
        refine XS.iinc X22.here hx rfl (hb hby own_d_prog_61_method_2_code_27) rfl (l' := #[.val (.int (Int32.ofNat nN)), .val (.ref pa), .val (.int (Int32.ofNat cN)), .val (.ref b2), .val (.int ((Int32.ofNat i1) + (1 : Int32)))]) rfl ?_
        show Steps p.tables e below (T22.setTop (mkF m 30 #[.val (.int (Int32.ofNat nN)), .val (.ref pa), .val (.int (Int32.ofNat cN)), .val (.ref b2), .val (.int ((Int32.ofNat i1) + (1 : Int32)))] [])) _
        refine XS.goto X22.here hx rfl (pc0 := 30) (pc' := 9) rfl (hb hby own_d_prog_61_method_2_code_30) (by decide) (by decide) ?_
        show Steps p.tables e below (T22.setTop (mkF m 9 #[.val (.int (Int32.ofNat nN)), .val (.ref pa), .val (.int (Int32.ofNat cN)), .val (.ref b2), .val (.int ((Int32.ofNat i1) + (1 : Int32)))] [])) _
        exact k
      refine own_go k23 ?_
      clear k23
      rw [own_succ i1]
      exact ih1 (i1 + 1) _ _ _ (by omega) X22 e22 N22 Z22 K22 f22_0 f22_1
  exact lp1 cN 0 _ _ _ (by omega) X2 e2 N0 Z2 K2 f2_0 Vp
theorem own_d_method_3_code_0 : decode method_3_code 0 = .ok (.iload_n 1, 1) := by decide +kernel
theorem own_d_method_3_code_1 : decode method_3_code 1 = .ok (.iload_n 2, 1) := by decide +kernel
theorem own_d_method_3_code_2 : decode method_3_code 2 = .ok (.if_icmp .ge 12, 3) := by decide +kernel
theorem own_d_method_3_code_5 : decode method_3_code 5 = .ok (.iload_n 0, 1) := by decide +kernel
theorem own_d_method_3_code_6 : decode method_3_code 6 = .ok (.iload_n 3, 1) := by decide +kernel
theorem own_d_method_3_code_7 : decode method_3_code 7 = .ok (.if_icmp .ge 7, 3) := by decide +kernel
theorem own_d_method_3_code_10 : decode method_3_code 10 = .ok (.iconst 1, 1) := by decide +kernel
theorem own_d_method_3_code_11 : decode method_3_code 11 = .ok (.goto 4, 3) := by decide +kernel
theorem own_d_method_3_code_15 : decode method_3_code 15 = .ok (.ireturn, 1) := by decide +kernel
theorem own_d_method_3_code_14 : decode method_3_code 14 = .ok (.iconst 0, 1) := by decide +kernel
theorem own_ef_below (m : MethodId) (x0 : Int32) (x1 : Int32) (x2 : Int32) (x3 : Int32) : entryFrame m #[(.int x0), (.int x1), (.int x2), (.int x3)] 4 = mkF m 0 #[.val (.int x0), .val (.int x1), .val (.int x2), .val (.int x3)] [] := by first | (simp [entryFrame, mkF, argsToLocals, Value.category]; done) | rfl
def own_Q_below (Z : State) (pv : Int32) (pi : Int32) (pn : Int32) (pu : Int32)  (h0 : Heap) (n0 : Nat) (v : Option Value) (h : Heap) (L : List Loc) : Prop := v = some (.int (own_below pv pi pn pu)) ∧ Fr n0 L ∧ h = h0
theorem own_pn_com_example_chronopath_chronopath_network_NetworkFirstSlotsPinLaw : plainName "com/example/chronopath/chronopath/network/NetworkFirstSlotsPinLaw" = true := by first | (simp [plainName, overriddenIn]; done) | decide +kernel
set_option maxRecDepth 65536 in
set_option maxHeartbeats 40000000 in
theorem own_rm_below (l : Launch) (Z : State) (a0 : Array Value) (hw : ∀ d ∈ tables_1, d.before a0 Z = true) (ws : List Jvm.Cond) (pv : Int32) (pi : Int32) (pn : Int32) (pu : Int32)  (h0 : Heap) (n0 : Nat) (Z0 : n0 ≤ h0.size) :
    MetFree l (⟨"com/example/chronopath/chronopath/network/NetworkFirstSlotsPinLaw", "below", "(IIII)I"⟩ : MethodName) (head1 (Jvm.Cond.code (⟨"com/example/chronopath/chronopath/network/NetworkFirstSlotsPinLaw", "below", "(IIII)I"⟩ : MethodName) method_3_code 4 (some .int) :: ws) ({ frames := 0, cells := 0, slots := 0, locals := 0 } : Room)) (fun a U => a = #[(.int pv), (.int pi), (.int pn), (.int pu)] ∧ Z.Warmed39 U.vm ∧ U.heap = h0) (fun _ _ _ _ _ => True) (fun _ U o U' => ∃ v L, o = .returned v ∧ own_Q_below Z pv pi pn pu h0 n0 v U'.heap L ∧ FrameEnd U o U' L ({ frames := 0, cells := 0, slots := 0, locals := 0 } : Room).cells ({ frames := 0, cells := 0, slots := 0, locals := 0 } : Room).slots) := by
  refine MetFree.of_bodySF (plainFor_of_name own_pn_com_example_chronopath_chronopath_network_NetworkFirstSlotsPinLaw) hisR ?_
  intro p e s m args below meth c s₁ Bd hml0 hP hKq_
  obtain ⟨rfl, hZ, hh⟩ := hP
  have hx := Bd.exec
  have hby := Bd.bytes
  have hml : c.maxLocals = 4 := hml0
  have hown : s.vm.findClass "com/example/chronopath/chronopath/network/NetworkFirstSlotsPinLaw" = some m.cls := findClass_of_methodNamed Bd.named
  have hnm := (name_of_methodNamed Bd.named Bd.method).1
  have X0 : Stand p l e ({ frames := 0, cells := 0, slots := 0, locals := 0 } : Room) s m #[(.int pv), (.int pi), (.int pn), (.int pu)] below meth c s₁ [] 0 0 := Stand.of_body Bd
  have e0 : s₁.heap = h0 := by rw [← hh, Bd.state]; rfl
  have N0 := Fr.nil n0
  have pre0 : ∀ t, Steps p.tables e below (s₁.setTop (mkF m 0 #[.val (.int pv), .val (.int pi), .val (.int pn), .val (.int pu)] [])) t → Steps p.tables e below (s₁.setTop (entryFrame m #[(.int pv), (.int pi), (.int pn), (.int pu)] 4)) t := fun t k => castTop (own_ef_below m pv pi pn pu) k
  refine own_go pre0 ?_
  refine own_abs ?_
  intro Pf hPf
  have k1 : ∀ t, Steps p.tables e below (s₁.setTop (mkF m 2 #[.val (.int pv), .val (.int pi), .val (.int pn), .val (.int pu)] [(.int pn), (.int pi)])) t → Steps p.tables e below (s₁.setTop (mkF m 0 #[.val (.int pv), .val (.int pi), .val (.int pn), .val (.int pu)] [])) t := fun t k => by
    refine XS.iloadN X0.here hx rfl (hb hby own_d_method_3_code_0) rfl ?_
    show Steps p.tables e below (s₁.setTop (mkF m 1 #[.val (.int pv), .val (.int pi), .val (.int pn), .val (.int pu)] [(.int pi)])) _
    refine XS.iloadN X0.here hx rfl (hb hby own_d_method_3_code_1) rfl ?_
    show Steps p.tables e below (s₁.setTop (mkF m 2 #[.val (.int pv), .val (.int pi), .val (.int pn), .val (.int pu)] [(.int pn), (.int pi)])) _
    exact k
  refine own_go k1 ?_
  clear k1
  by_cases hc2_2 : pi < pn
  · skip
    have k3 : ∀ t, Steps p.tables e below (s₁.setTop (mkF m 7 #[.val (.int pv), .val (.int pi), .val (.int pn), .val (.int pu)] [(.int pu), (.int pv)])) t → Steps p.tables e below (s₁.setTop (mkF m 2 #[.val (.int pv), .val (.int pi), .val (.int pn), .val (.int pu)] [(.int pn), (.int pi)])) t := fun t k => by
      refine XS.icmpNo X0.here hx rfl (hb hby own_d_method_3_code_2) rfl (tlt hc2_2).2.1 ?_
      show Steps p.tables e below (s₁.setTop (mkF m 5 #[.val (.int pv), .val (.int pi), .val (.int pn), .val (.int pu)] [])) _
      refine XS.iloadN X0.here hx rfl (hb hby own_d_method_3_code_5) rfl ?_
      show Steps p.tables e below (s₁.setTop (mkF m 6 #[.val (.int pv), .val (.int pi), .val (.int pn), .val (.int pu)] [(.int pv)])) _
      refine XS.iloadN X0.here hx rfl (hb hby own_d_method_3_code_6) rfl ?_
      show Steps p.tables e below (s₁.setTop (mkF m 7 #[.val (.int pv), .val (.int pi), .val (.int pn), .val (.int pu)] [(.int pu), (.int pv)])) _
      exact k
    refine own_go k3 ?_
    clear k3
    by_cases hc7_4 : pv < pu
    · skip
      have k5 : ∀ t, Steps p.tables e below (s₁.setTop (mkF m 15 #[.val (.int pv), .val (.int pi), .val (.int pn), .val (.int pu)] [(.int (1 : Int32))])) t → Steps p.tables e below (s₁.setTop (mkF m 7 #[.val (.int pv), .val (.int pi), .val (.int pn), .val (.int pu)] [(.int pu), (.int pv)])) t := fun t k => by
        refine XS.icmpNo X0.here hx rfl (hb hby own_d_method_3_code_7) rfl (tlt hc7_4).2.1 ?_
        show Steps p.tables e below (s₁.setTop (mkF m 10 #[.val (.int pv), .val (.int pi), .val (.int pn), .val (.int pu)] [])) _
        refine XS.iconst X0.here hx rfl (hb hby own_d_method_3_code_10) ?_
        show Steps p.tables e below (s₁.setTop (mkF m 11 #[.val (.int pv), .val (.int pi), .val (.int pn), .val (.int pu)] [(.int (1 : Int32))])) _
        refine XS.goto X0.here hx rfl (pc0 := 11) (pc' := 15) rfl (hb hby own_d_method_3_code_11) (by decide) (by decide) ?_
        show Steps p.tables e below (s₁.setTop (mkF m 15 #[.val (.int pv), .val (.int pi), .val (.int pn), .val (.int pu)] [(.int (1 : Int32))])) _
        exact k
      refine own_go k5 ?_
      clear k5
      obtain ⟨fs, hr, hrun, hended, hW, hsame⟩ := X0.leave (v := some (.int (1 : Int32))) (fun h => by rw [Bd.returns] at h; cases h)
      refine ⟨_, _, retOut X0 hx Bd.returns rfl (Or.inl ⟨rfl, Or.inl rfl, _, rfl⟩) (hb hby own_d_method_3_code_15) hr, hPf _ _ ⟨hrun, hended, _, _, rfl, ?_, ⟨_, rfl⟩, hW, hsame.mono (by decide) (by decide)⟩⟩
      show own_Q_below Z pv pi pn pu h0 n0 _ s₁.heap _
      rw [e0]
      exact ⟨by unfold own_below; rw [if_pos hc2_2, if_pos hc7_4], N0, rfl⟩
    · skip
      have k6 : ∀ t, Steps p.tables e below (s₁.setTop (mkF m 15 #[.val (.int pv), .val (.int pi), .val (.int pn), .val (.int pu)] [(.int (0 : Int32))])) t → Steps p.tables e below (s₁.setTop (mkF m 7 #[.val (.int pv), .val (.int pi), .val (.int pn), .val (.int pu)] [(.int pu), (.int pv)])) t := fun t k => by
        refine XS.icmpYes X0.here hx rfl (pc0 := 7) (pc' := 14) rfl (hb hby own_d_method_3_code_7) rfl (flt hc7_4).2.1 (by decide) (by decide) ?_
        show Steps p.tables e below (s₁.setTop (mkF m 14 #[.val (.int pv), .val (.int pi), .val (.int pn), .val (.int pu)] [])) _
        refine XS.iconst X0.here hx rfl (hb hby own_d_method_3_code_14) ?_
        show Steps p.tables e below (s₁.setTop (mkF m 15 #[.val (.int pv), .val (.int pi), .val (.int pn), .val (.int pu)] [(.int (0 : Int32))])) _
        exact k
      refine own_go k6 ?_
      clear k6
      obtain ⟨fs, hr, hrun, hended, hW, hsame⟩ := X0.leave (v := some (.int (0 : Int32))) (fun h => by rw [Bd.returns] at h; cases h)
      refine ⟨_, _, retOut X0 hx Bd.returns rfl (Or.inl ⟨rfl, Or.inl rfl, _, rfl⟩) (hb hby own_d_method_3_code_15) hr, hPf _ _ ⟨hrun, hended, _, _, rfl, ?_, ⟨_, rfl⟩, hW, hsame.mono (by decide) (by decide)⟩⟩
      show own_Q_below Z pv pi pn pu h0 n0 _ s₁.heap _
      rw [e0]
      exact ⟨by unfold own_below; rw [if_pos hc2_2, if_neg hc7_4], N0, rfl⟩
  · skip
    have k7 : ∀ t, Steps p.tables e below (s₁.setTop (mkF m 15 #[.val (.int pv), .val (.int pi), .val (.int pn), .val (.int pu)] [(.int (0 : Int32))])) t → Steps p.tables e below (s₁.setTop (mkF m 2 #[.val (.int pv), .val (.int pi), .val (.int pn), .val (.int pu)] [(.int pn), (.int pi)])) t := fun t k => by
      refine XS.icmpYes X0.here hx rfl (pc0 := 2) (pc' := 14) rfl (hb hby own_d_method_3_code_2) rfl (flt hc2_2).2.1 (by decide) (by decide) ?_
      show Steps p.tables e below (s₁.setTop (mkF m 14 #[.val (.int pv), .val (.int pi), .val (.int pn), .val (.int pu)] [])) _
      refine XS.iconst X0.here hx rfl (hb hby own_d_method_3_code_14) ?_
      show Steps p.tables e below (s₁.setTop (mkF m 15 #[.val (.int pv), .val (.int pi), .val (.int pn), .val (.int pu)] [(.int (0 : Int32))])) _
      exact k
    refine own_go k7 ?_
    clear k7
    obtain ⟨fs, hr, hrun, hended, hW, hsame⟩ := X0.leave (v := some (.int (0 : Int32))) (fun h => by rw [Bd.returns] at h; cases h)
    refine ⟨_, _, retOut X0 hx Bd.returns rfl (Or.inl ⟨rfl, Or.inl rfl, _, rfl⟩) (hb hby own_d_method_3_code_15) hr, hPf _ _ ⟨hrun, hended, _, _, rfl, ?_, ⟨_, rfl⟩, hW, hsame.mono (by decide) (by decide)⟩⟩
    show own_Q_below Z pv pi pn pu h0 n0 _ s₁.heap _
    rw [e0]
    exact ⟨by unfold own_below; rw [if_neg hc2_2], N0, rfl⟩
theorem own_d_method_4_code_0 : decode method_4_code 0 = .ok (.iload_n 1, 1) := by decide +kernel
theorem own_d_method_4_code_1 : decode method_4_code 1 = .ok (.iload_n 2, 1) := by decide +kernel
theorem own_d_method_4_code_2 : decode method_4_code 2 = .ok (.if_icmp .le 5, 3) := by decide +kernel
theorem own_d_method_4_code_5 : decode method_4_code 5 = .ok (.iconst 1, 1) := by decide +kernel
theorem own_d_method_4_code_6 : decode method_4_code 6 = .ok (.ireturn, 1) := by decide +kernel
theorem own_d_method_4_code_7 : decode method_4_code 7 = .ok (.iload 4, 2) := by decide +kernel
theorem own_d_method_4_code_9 : decode method_4_code 9 = .ok (.iconst 0, 1) := by decide +kernel
theorem own_d_method_4_code_10 : decode method_4_code 10 = .ok (.iload_n 3, 1) := by decide +kernel
theorem own_d_method_4_code_11 : decode method_4_code 11 = .ok (.iload_n 1, 1) := by decide +kernel
theorem own_d_method_4_code_12 : decode method_4_code 12 = .ok (.invokestatic 20, 3) := by decide +kernel
theorem own_pd_28IIII29I : parseMethodDescriptor "(IIII)I" = some ⟨[.int, .int, .int, .int], some .int⟩ := by decide +kernel
theorem own_d_method_4_code_15 : decode method_4_code 15 = .ok (.iload 5, 2) := by decide +kernel
theorem own_d_method_4_code_17 : decode method_4_code 17 = .ok (.iconst 1, 1) := by decide +kernel
theorem own_d_method_4_code_18 : decode method_4_code 18 = .ok (.iload_n 3, 1) := by decide +kernel
theorem own_d_method_4_code_19 : decode method_4_code 19 = .ok (.iload_n 1, 1) := by decide +kernel
theorem own_d_method_4_code_20 : decode method_4_code 20 = .ok (.invokestatic 20, 3) := by decide +kernel
theorem own_d_method_4_code_23 : decode method_4_code 23 = .ok (.iadd, 1) := by decide +kernel
theorem own_d_method_4_code_24 : decode method_4_code 24 = .ok (.iload 6, 2) := by decide +kernel
theorem own_d_method_4_code_26 : decode method_4_code 26 = .ok (.iconst 2, 1) := by decide +kernel
theorem own_d_method_4_code_27 : decode method_4_code 27 = .ok (.iload_n 3, 1) := by decide +kernel
theorem own_d_method_4_code_28 : decode method_4_code 28 = .ok (.iload_n 1, 1) := by decide +kernel
theorem own_d_method_4_code_29 : decode method_4_code 29 = .ok (.invokestatic 20, 3) := by decide +kernel
theorem own_d_method_4_code_32 : decode method_4_code 32 = .ok (.iadd, 1) := by decide +kernel
theorem own_d_method_4_code_33 : decode method_4_code 33 = .ok (.iload 7, 2) := by decide +kernel
theorem own_d_method_4_code_35 : decode method_4_code 35 = .ok (.iconst 3, 1) := by decide +kernel
theorem own_d_method_4_code_36 : decode method_4_code 36 = .ok (.iload_n 3, 1) := by decide +kernel
theorem own_d_method_4_code_37 : decode method_4_code 37 = .ok (.iload_n 1, 1) := by decide +kernel
theorem own_d_method_4_code_38 : decode method_4_code 38 = .ok (.invokestatic 20, 3) := by decide +kernel
theorem own_d_method_4_code_41 : decode method_4_code 41 = .ok (.iadd, 1) := by decide +kernel
theorem own_d_method_4_code_42 : decode method_4_code 42 = .ok (.istore 8, 2) := by decide +kernel
theorem own_d_method_4_code_44 : decode method_4_code 44 = .ok (.aload_n 0, 1) := by decide +kernel
theorem own_d_method_4_code_45 : decode method_4_code 45 = .ok (.iload_n 1, 1) := by decide +kernel
theorem own_d_method_4_code_46 : decode method_4_code 46 = .ok (.iaload, 1) := by decide +kernel
theorem own_d_method_4_code_47 : decode method_4_code 47 = .ok (.iload 8, 2) := by decide +kernel
theorem own_d_method_4_code_49 : decode method_4_code 49 = .ok (.if_icmp .ne 7, 3) := by decide +kernel
theorem own_d_method_4_code_52 : decode method_4_code 52 = .ok (.iconst 1, 1) := by decide +kernel
theorem own_d_method_4_code_53 : decode method_4_code 53 = .ok (.goto 4, 3) := by decide +kernel
theorem own_d_method_4_code_57 : decode method_4_code 57 = .ok (.ireturn, 1) := by decide +kernel
theorem own_ef_slot (m : MethodId) (x0 : Addr) (x1 : Int32) (x2 : Int32) (x3 : Int32) (x4 : Int32) (x5 : Int32) (x6 : Int32) (x7 : Int32) : entryFrame m #[(.ref x0), (.int x1), (.int x2), (.int x3), (.int x4), (.int x5), (.int x6), (.int x7)] 9 = mkF m 0 #[.val (.ref x0), .val (.int x1), .val (.int x2), .val (.int x3), .val (.int x4), .val (.int x5), .val (.int x6), .val (.int x7), .unset] [] := by first | (simp [entryFrame, mkF, argsToLocals, Value.category]; done) | rfl
def own_Q_slot (Z : State) (pa : Addr) (uN nN cN : Nat) (nn : Nat → Nat) (ck : ClassId) (h0 : Heap) (n0 : Nat) (v : Option Value) (h : Heap) (L : List Loc) : Prop := v = some (.int 1) ∧ Fr n0 L ∧ h = h0
set_option maxRecDepth 65536 in
set_option maxHeartbeats 40000000 in
theorem own_rm_slot (l : Launch) (Z : State) (a0 : Array Value) (hw : ∀ d ∈ tables_1, d.before a0 Z = true) (ws : List Jvm.Cond) (pa : Addr) (uN nN cN : Nat) (nn : Nat → Nat) (ck : ClassId) (h0 : Heap) (n0 : Nat) (Z0 : n0 ≤ h0.size) (hN4 : nN ≤ 4) (hc4 : cN ≤ 4) (hu4 : uN ≤ 4) (hnn : ∀ t, t < cN → nn t < nN) (V0 : Arv Z h0 pa ck .int (Int32.ofNat (nN + 1)) (own_L (nN + 1) (own_f nn cN)) (.int (0 : Int32))) :
    MetFree l (⟨"com/example/chronopath/chronopath/network/NetworkFirstSlotsPinLaw", "slot", "([IIIIIIII)Z"⟩ : MethodName) (head1 (Jvm.Cond.code (⟨"com/example/chronopath/chronopath/network/NetworkFirstSlotsPinLaw", "slot", "([IIIIIIII)Z"⟩ : MethodName) method_4_code 9 (some .boolean) :: ws) ({ frames := 1, cells := 0, slots := 0, locals := 16 } : Room)) (fun a U => a = #[(.ref pa), (.int (Int32.ofNat uN)), (.int (Int32.ofNat nN)), (.int (Int32.ofNat cN)), (.int (Int32.ofNat (nn 0))), (.int (Int32.ofNat (nn 1))), (.int (Int32.ofNat (nn 2))), (.int (Int32.ofNat (nn 3)))] ∧ Z.Warmed39 U.vm ∧ U.heap = h0) (fun _ _ _ _ _ => True) (fun _ U o U' => ∃ v L, o = .returned v ∧ own_Q_slot Z pa uN nN cN nn ck h0 n0 v U'.heap L ∧ FrameEnd U o U' L ({ frames := 1, cells := 0, slots := 0, locals := 16 } : Room).cells ({ frames := 1, cells := 0, slots := 0, locals := 16 } : Room).slots) := by
  refine MetFree.of_bodySF (plainFor_of_name own_pn_com_example_chronopath_chronopath_network_NetworkFirstSlotsPinLaw) hisR ?_
  intro p e s m args below meth c s₁ Bd hml0 hP hKq_
  obtain ⟨rfl, hZ, hh⟩ := hP
  have hx := Bd.exec
  have hby := Bd.bytes
  have hml : c.maxLocals = 9 := hml0
  have hown : s.vm.findClass "com/example/chronopath/chronopath/network/NetworkFirstSlotsPinLaw" = some m.cls := findClass_of_methodNamed Bd.named
  have hnm := (name_of_methodNamed Bd.named Bd.method).1
  have X0 : Stand p l e ({ frames := 1, cells := 0, slots := 0, locals := 16 } : Room) s m #[(.ref pa), (.int (Int32.ofNat uN)), (.int (Int32.ofNat nN)), (.int (Int32.ofNat cN)), (.int (Int32.ofNat (nn 0))), (.int (Int32.ofNat (nn 1))), (.int (Int32.ofNat (nn 2))), (.int (Int32.ofNat (nn 3)))] below meth c s₁ [] 0 0 := Stand.of_body Bd
  have e0 : s₁.heap = h0 := by rw [← hh, Bd.state]; rfl
  have N0 := Fr.nil n0
  have pre0 : ∀ t, Steps p.tables e below (s₁.setTop (mkF m 0 #[.val (.ref pa), .val (.int (Int32.ofNat uN)), .val (.int (Int32.ofNat nN)), .val (.int (Int32.ofNat cN)), .val (.int (Int32.ofNat (nn 0))), .val (.int (Int32.ofNat (nn 1))), .val (.int (Int32.ofNat (nn 2))), .val (.int (Int32.ofNat (nn 3))), .unset] [])) t → Steps p.tables e below (s₁.setTop (entryFrame m #[(.ref pa), (.int (Int32.ofNat uN)), (.int (Int32.ofNat nN)), (.int (Int32.ofNat cN)), (.int (Int32.ofNat (nn 0))), (.int (Int32.ofNat (nn 1))), (.int (Int32.ofNat (nn 2))), (.int (Int32.ofNat (nn 3)))] 9)) t := fun t k => castTop (own_ef_slot m pa (Int32.ofNat uN) (Int32.ofNat nN) (Int32.ofNat cN) (Int32.ofNat (nn 0)) (Int32.ofNat (nn 1)) (Int32.ofNat (nn 2)) (Int32.ofNat (nn 3))) k
  refine own_go pre0 ?_
  refine own_abs ?_
  intro Pf hPf
  have k1 : ∀ t, Steps p.tables e below (s₁.setTop (mkF m 2 #[.val (.ref pa), .val (.int (Int32.ofNat uN)), .val (.int (Int32.ofNat nN)), .val (.int (Int32.ofNat cN)), .val (.int (Int32.ofNat (nn 0))), .val (.int (Int32.ofNat (nn 1))), .val (.int (Int32.ofNat (nn 2))), .val (.int (Int32.ofNat (nn 3))), .unset] [(.int (Int32.ofNat nN)), (.int (Int32.ofNat uN))])) t → Steps p.tables e below (s₁.setTop (mkF m 0 #[.val (.ref pa), .val (.int (Int32.ofNat uN)), .val (.int (Int32.ofNat nN)), .val (.int (Int32.ofNat cN)), .val (.int (Int32.ofNat (nn 0))), .val (.int (Int32.ofNat (nn 1))), .val (.int (Int32.ofNat (nn 2))), .val (.int (Int32.ofNat (nn 3))), .unset] [])) t := fun t k => by
    refine XS.iloadN X0.here hx rfl (hb hby own_d_method_4_code_0) rfl ?_
    show Steps p.tables e below (s₁.setTop (mkF m 1 #[.val (.ref pa), .val (.int (Int32.ofNat uN)), .val (.int (Int32.ofNat nN)), .val (.int (Int32.ofNat cN)), .val (.int (Int32.ofNat (nn 0))), .val (.int (Int32.ofNat (nn 1))), .val (.int (Int32.ofNat (nn 2))), .val (.int (Int32.ofNat (nn 3))), .unset] [(.int (Int32.ofNat uN))])) _
    refine XS.iloadN X0.here hx rfl (hb hby own_d_method_4_code_1) rfl ?_
    show Steps p.tables e below (s₁.setTop (mkF m 2 #[.val (.ref pa), .val (.int (Int32.ofNat uN)), .val (.int (Int32.ofNat nN)), .val (.int (Int32.ofNat cN)), .val (.int (Int32.ofNat (nn 0))), .val (.int (Int32.ofNat (nn 1))), .val (.int (Int32.ofNat (nn 2))), .val (.int (Int32.ofNat (nn 3))), .unset] [(.int (Int32.ofNat nN)), (.int (Int32.ofNat uN))])) _
    exact k
  refine own_go k1 ?_
  clear k1
  by_cases hc2_2 : (Int32.ofNat nN) < (Int32.ofNat uN)
  · skip
    have k3 : ∀ t, Steps p.tables e below (s₁.setTop (mkF m 6 #[.val (.ref pa), .val (.int (Int32.ofNat uN)), .val (.int (Int32.ofNat nN)), .val (.int (Int32.ofNat cN)), .val (.int (Int32.ofNat (nn 0))), .val (.int (Int32.ofNat (nn 1))), .val (.int (Int32.ofNat (nn 2))), .val (.int (Int32.ofNat (nn 3))), .unset] [(.int (1 : Int32))])) t → Steps p.tables e below (s₁.setTop (mkF m 2 #[.val (.ref pa), .val (.int (Int32.ofNat uN)), .val (.int (Int32.ofNat nN)), .val (.int (Int32.ofNat cN)), .val (.int (Int32.ofNat (nn 0))), .val (.int (Int32.ofNat (nn 1))), .val (.int (Int32.ofNat (nn 2))), .val (.int (Int32.ofNat (nn 3))), .unset] [(.int (Int32.ofNat nN)), (.int (Int32.ofNat uN))])) t := fun t k => by
      refine XS.icmpNo X0.here hx rfl (hb hby own_d_method_4_code_2) rfl (tlt hc2_2).2.2.2 ?_
      show Steps p.tables e below (s₁.setTop (mkF m 5 #[.val (.ref pa), .val (.int (Int32.ofNat uN)), .val (.int (Int32.ofNat nN)), .val (.int (Int32.ofNat cN)), .val (.int (Int32.ofNat (nn 0))), .val (.int (Int32.ofNat (nn 1))), .val (.int (Int32.ofNat (nn 2))), .val (.int (Int32.ofNat (nn 3))), .unset] [])) _
      refine XS.iconst X0.here hx rfl (hb hby own_d_method_4_code_5) ?_
      show Steps p.tables e below (s₁.setTop (mkF m 6 #[.val (.ref pa), .val (.int (Int32.ofNat uN)), .val (.int (Int32.ofNat nN)), .val (.int (Int32.ofNat cN)), .val (.int (Int32.ofNat (nn 0))), .val (.int (Int32.ofNat (nn 1))), .val (.int (Int32.ofNat (nn 2))), .val (.int (Int32.ofNat (nn 3))), .unset] [(.int (1 : Int32))])) _
      exact k
    refine own_go k3 ?_
    clear k3
    obtain ⟨fs, hr, hrun, hended, hW, hsame⟩ := X0.leave (v := some (.int (nar .boolean (1 : Int32)))) (fun h => by rw [Bd.returns] at h; cases h)
    refine ⟨_, _, retN X0 hx (t := .boolean) Bd.returns (by simp) (hb hby own_d_method_4_code_6) hr, hPf _ _ ⟨hrun, hended, _, _, rfl, ?_, ⟨_, rfl⟩, hW, hsame.mono (by decide) (by decide)⟩⟩
    show own_Q_slot Z pa uN nN cN nn ck h0 n0 _ s₁.heap _
    rw [e0]
    exact ⟨rfl, N0, rfl⟩
  · skip
    have k5 : ∀ t, Steps p.tables e below (s₁.setTop (mkF m 12 #[.val (.ref pa), .val (.int (Int32.ofNat uN)), .val (.int (Int32.ofNat nN)), .val (.int (Int32.ofNat cN)), .val (.int (Int32.ofNat (nn 0))), .val (.int (Int32.ofNat (nn 1))), .val (.int (Int32.ofNat (nn 2))), .val (.int (Int32.ofNat (nn 3))), .unset] [(.int (Int32.ofNat uN)), (.int (Int32.ofNat cN)), (.int (0 : Int32)), (.int (Int32.ofNat (nn 0)))])) t → Steps p.tables e below (s₁.setTop (mkF m 2 #[.val (.ref pa), .val (.int (Int32.ofNat uN)), .val (.int (Int32.ofNat nN)), .val (.int (Int32.ofNat cN)), .val (.int (Int32.ofNat (nn 0))), .val (.int (Int32.ofNat (nn 1))), .val (.int (Int32.ofNat (nn 2))), .val (.int (Int32.ofNat (nn 3))), .unset] [(.int (Int32.ofNat nN)), (.int (Int32.ofNat uN))])) t := fun t k => by
      refine XS.icmpYes X0.here hx rfl (pc0 := 2) (pc' := 7) rfl (hb hby own_d_method_4_code_2) rfl (flt hc2_2).2.2.2 (by decide) (by decide) ?_
      show Steps p.tables e below (s₁.setTop (mkF m 7 #[.val (.ref pa), .val (.int (Int32.ofNat uN)), .val (.int (Int32.ofNat nN)), .val (.int (Int32.ofNat cN)), .val (.int (Int32.ofNat (nn 0))), .val (.int (Int32.ofNat (nn 1))), .val (.int (Int32.ofNat (nn 2))), .val (.int (Int32.ofNat (nn 3))), .unset] [])) _
      refine XS.iload X0.here hx rfl (hb hby own_d_method_4_code_7) rfl ?_
      show Steps p.tables e below (s₁.setTop (mkF m 9 #[.val (.ref pa), .val (.int (Int32.ofNat uN)), .val (.int (Int32.ofNat nN)), .val (.int (Int32.ofNat cN)), .val (.int (Int32.ofNat (nn 0))), .val (.int (Int32.ofNat (nn 1))), .val (.int (Int32.ofNat (nn 2))), .val (.int (Int32.ofNat (nn 3))), .unset] [(.int (Int32.ofNat (nn 0)))])) _
      refine XS.iconst X0.here hx rfl (hb hby own_d_method_4_code_9) ?_
      show Steps p.tables e below (s₁.setTop (mkF m 10 #[.val (.ref pa), .val (.int (Int32.ofNat uN)), .val (.int (Int32.ofNat nN)), .val (.int (Int32.ofNat cN)), .val (.int (Int32.ofNat (nn 0))), .val (.int (Int32.ofNat (nn 1))), .val (.int (Int32.ofNat (nn 2))), .val (.int (Int32.ofNat (nn 3))), .unset] [(.int (0 : Int32)), (.int (Int32.ofNat (nn 0)))])) _
      refine XS.iloadN X0.here hx rfl (hb hby own_d_method_4_code_10) rfl ?_
      show Steps p.tables e below (s₁.setTop (mkF m 11 #[.val (.ref pa), .val (.int (Int32.ofNat uN)), .val (.int (Int32.ofNat nN)), .val (.int (Int32.ofNat cN)), .val (.int (Int32.ofNat (nn 0))), .val (.int (Int32.ofNat (nn 1))), .val (.int (Int32.ofNat (nn 2))), .val (.int (Int32.ofNat (nn 3))), .unset] [(.int (Int32.ofNat cN)), (.int (0 : Int32)), (.int (Int32.ofNat (nn 0)))])) _
      refine XS.iloadN X0.here hx rfl (hb hby own_d_method_4_code_11) rfl ?_
      show Steps p.tables e below (s₁.setTop (mkF m 12 #[.val (.ref pa), .val (.int (Int32.ofNat uN)), .val (.int (Int32.ofNat nN)), .val (.int (Int32.ofNat cN)), .val (.int (Int32.ofNat (nn 0))), .val (.int (Int32.ofNat (nn 1))), .val (.int (Int32.ofNat (nn 2))), .val (.int (Int32.ofNat (nn 3))), .unset] [(.int (Int32.ofNat uN)), (.int (Int32.ofNat cN)), (.int (0 : Int32)), (.int (Int32.ofNat (nn 0)))])) _
      exact k
    refine own_go k5 ?_
    clear k5
    obtain ⟨_, _, ⟨T4, L4, k4, n4⟩, -, X4, ⟨Lc4, hQ4, l4, y4, z4⟩, st4⟩ := Jvm.LawKit.callS X0 hx (y := (⟨"com/example/chronopath/chronopath/network/NetworkFirstSlotsPinLaw", "below", "(IIII)I"⟩ : MethodName)) hown (mvT hZ (hw _ (List.mem_of_getElem? (i := 10) rfl))) (mvT hZ (hw _ (List.mem_of_getElem? (i := 11) rfl))) (mvT hZ (hw _ (List.mem_of_getElem? (i := 8) rfl))) (mvT hZ (hw _ (List.mem_of_getElem? (i := 12) rfl))) (by decide) (backOf (W := 0) (own_rm_below l Z a0 hw [] (Int32.ofNat (nn 0)) (0 : Int32) (Int32.ofNat cN) (Int32.ofNat uN) h0 n0 Z0 ) hZ (hw _ (List.mem_of_getElem? (i := 12) rfl)) (hw _ (List.mem_of_getElem? (i := 8) rfl)) (by decide) (by decide)) (g := (mkF m 12 #[.val (.ref pa), .val (.int (Int32.ofNat uN)), .val (.int (Int32.ofNat nN)), .val (.int (Int32.ofNat cN)), .val (.int (Int32.ofNat (nn 0))), .val (.int (Int32.ofNat (nn 1))), .val (.int (Int32.ofNat (nn 2))), .val (.int (Int32.ofNat (nn 3))), .unset] [(.int (Int32.ofNat uN)), (.int (Int32.ofNat cN)), (.int (0 : Int32)), (.int (Int32.ofNat (nn 0)))])) rfl (by rw [hml]; rfl) (argsL := [(.int (Int32.ofNat (nn 0))), (.int (0 : Int32)), (.int (Int32.ofNat cN)), (.int (Int32.ofNat uN))]) (rest := []) (lenOf own_pd_28IIII29I rfl) rfl (by show 2 * 0 + _ ≤ _; exact Nat.le_of_eq rfl) (hb hby own_d_method_4_code_12) (fun _ _ => ⟨rfl, e0, (by decide : 0 + 0 ≤ _), (by decide : 0 + 0 ≤ _)⟩)
    dsimp only [Pt.U, Pt.locs, Pt.cells, Pt.slots] at X4 l4 y4 z4 st4 hQ4
    subst l4 y4 z4
    obtain ⟨rfl, N4q, eh4⟩ := hQ4
    have N4 := Fr.app N0 N4q
    refine own_go st4 ?_
    have k7 : ∀ t, Steps p.tables e below (T4.setTop (mkF m 20 #[.val (.ref pa), .val (.int (Int32.ofNat uN)), .val (.int (Int32.ofNat nN)), .val (.int (Int32.ofNat cN)), .val (.int (Int32.ofNat (nn 0))), .val (.int (Int32.ofNat (nn 1))), .val (.int (Int32.ofNat (nn 2))), .val (.int (Int32.ofNat (nn 3))), .unset] [(.int (Int32.ofNat uN)), (.int (Int32.ofNat cN)), (.int (1 : Int32)), (.int (Int32.ofNat (nn 1))), (.int (own_below (Int32.ofNat (nn 0)) (0 : Int32) (Int32.ofNat cN) (Int32.ofNat uN)))])) t → Steps p.tables e below (T4.setTop (mkF m 15 #[.val (.ref pa), .val (.int (Int32.ofNat uN)), .val (.int (Int32.ofNat nN)), .val (.int (Int32.ofNat cN)), .val (.int (Int32.ofNat (nn 0))), .val (.int (Int32.ofNat (nn 1))), .val (.int (Int32.ofNat (nn 2))), .val (.int (Int32.ofNat (nn 3))), .unset] [(.int (own_below (Int32.ofNat (nn 0)) (0 : Int32) (Int32.ofNat cN) (Int32.ofNat uN)))])) t := fun t k => by
      refine XS.iload X4.here hx rfl (hb hby own_d_method_4_code_15) rfl ?_
      show Steps p.tables e below (T4.setTop (mkF m 17 #[.val (.ref pa), .val (.int (Int32.ofNat uN)), .val (.int (Int32.ofNat nN)), .val (.int (Int32.ofNat cN)), .val (.int (Int32.ofNat (nn 0))), .val (.int (Int32.ofNat (nn 1))), .val (.int (Int32.ofNat (nn 2))), .val (.int (Int32.ofNat (nn 3))), .unset] [(.int (Int32.ofNat (nn 1))), (.int (own_below (Int32.ofNat (nn 0)) (0 : Int32) (Int32.ofNat cN) (Int32.ofNat uN)))])) _
      refine XS.iconst X4.here hx rfl (hb hby own_d_method_4_code_17) ?_
      show Steps p.tables e below (T4.setTop (mkF m 18 #[.val (.ref pa), .val (.int (Int32.ofNat uN)), .val (.int (Int32.ofNat nN)), .val (.int (Int32.ofNat cN)), .val (.int (Int32.ofNat (nn 0))), .val (.int (Int32.ofNat (nn 1))), .val (.int (Int32.ofNat (nn 2))), .val (.int (Int32.ofNat (nn 3))), .unset] [(.int (1 : Int32)), (.int (Int32.ofNat (nn 1))), (.int (own_below (Int32.ofNat (nn 0)) (0 : Int32) (Int32.ofNat cN) (Int32.ofNat uN)))])) _
      refine XS.iloadN X4.here hx rfl (hb hby own_d_method_4_code_18) rfl ?_
      show Steps p.tables e below (T4.setTop (mkF m 19 #[.val (.ref pa), .val (.int (Int32.ofNat uN)), .val (.int (Int32.ofNat nN)), .val (.int (Int32.ofNat cN)), .val (.int (Int32.ofNat (nn 0))), .val (.int (Int32.ofNat (nn 1))), .val (.int (Int32.ofNat (nn 2))), .val (.int (Int32.ofNat (nn 3))), .unset] [(.int (Int32.ofNat cN)), (.int (1 : Int32)), (.int (Int32.ofNat (nn 1))), (.int (own_below (Int32.ofNat (nn 0)) (0 : Int32) (Int32.ofNat cN) (Int32.ofNat uN)))])) _
      refine XS.iloadN X4.here hx rfl (hb hby own_d_method_4_code_19) rfl ?_
      show Steps p.tables e below (T4.setTop (mkF m 20 #[.val (.ref pa), .val (.int (Int32.ofNat uN)), .val (.int (Int32.ofNat nN)), .val (.int (Int32.ofNat cN)), .val (.int (Int32.ofNat (nn 0))), .val (.int (Int32.ofNat (nn 1))), .val (.int (Int32.ofNat (nn 2))), .val (.int (Int32.ofNat (nn 3))), .unset] [(.int (Int32.ofNat uN)), (.int (Int32.ofNat cN)), (.int (1 : Int32)), (.int (Int32.ofNat (nn 1))), (.int (own_below (Int32.ofNat (nn 0)) (0 : Int32) (Int32.ofNat cN) (Int32.ofNat uN)))])) _
      exact k
    refine own_go k7 ?_
    clear k7
    obtain ⟨_, _, ⟨T6, L6, k6, n6⟩, -, X6, ⟨Lc6, hQ6, l6, y6, z6⟩, st6⟩ := Jvm.LawKit.callS X4 hx (y := (⟨"com/example/chronopath/chronopath/network/NetworkFirstSlotsPinLaw", "below", "(IIII)I"⟩ : MethodName)) hown (mvT hZ (hw _ (List.mem_of_getElem? (i := 10) rfl))) (mvT hZ (hw _ (List.mem_of_getElem? (i := 11) rfl))) (mvT hZ (hw _ (List.mem_of_getElem? (i := 8) rfl))) (mvT hZ (hw _ (List.mem_of_getElem? (i := 12) rfl))) (by decide) (backOf (W := 1) (own_rm_below l Z a0 hw [] (Int32.ofNat (nn 1)) (1 : Int32) (Int32.ofNat cN) (Int32.ofNat uN) h0 n0 Z0 ) hZ (hw _ (List.mem_of_getElem? (i := 12) rfl)) (hw _ (List.mem_of_getElem? (i := 8) rfl)) (by decide) (by decide)) (g := (mkF m 20 #[.val (.ref pa), .val (.int (Int32.ofNat uN)), .val (.int (Int32.ofNat nN)), .val (.int (Int32.ofNat cN)), .val (.int (Int32.ofNat (nn 0))), .val (.int (Int32.ofNat (nn 1))), .val (.int (Int32.ofNat (nn 2))), .val (.int (Int32.ofNat (nn 3))), .unset] [(.int (Int32.ofNat uN)), (.int (Int32.ofNat cN)), (.int (1 : Int32)), (.int (Int32.ofNat (nn 1))), (.int (own_below (Int32.ofNat (nn 0)) (0 : Int32) (Int32.ofNat cN) (Int32.ofNat uN)))])) rfl (by rw [hml]; rfl) (argsL := [(.int (Int32.ofNat (nn 1))), (.int (1 : Int32)), (.int (Int32.ofNat cN)), (.int (Int32.ofNat uN))]) (rest := [(.int (own_below (Int32.ofNat (nn 0)) (0 : Int32) (Int32.ofNat cN) (Int32.ofNat uN)))]) (lenOf own_pd_28IIII29I rfl) rfl (by show 2 * 0 + _ ≤ _; exact Nat.le_of_eq rfl) (hb hby own_d_method_4_code_20) (fun _ _ => ⟨rfl, eh4, (by decide : 0 + 0 ≤ _), (by decide : 0 + 0 ≤ _)⟩)
    dsimp only [Pt.U, Pt.locs, Pt.cells, Pt.slots] at X6 l6 y6 z6 st6 hQ6
    subst l6 y6 z6
    obtain ⟨rfl, N6q, eh6⟩ := hQ6
    have N6 := Fr.app N4 N6q
    refine own_go st6 ?_
    have k9 : ∀ t, Steps p.tables e below (T6.setTop (mkF m 29 #[.val (.ref pa), .val (.int (Int32.ofNat uN)), .val (.int (Int32.ofNat nN)), .val (.int (Int32.ofNat cN)), .val (.int (Int32.ofNat (nn 0))), .val (.int (Int32.ofNat (nn 1))), .val (.int (Int32.ofNat (nn 2))), .val (.int (Int32.ofNat (nn 3))), .unset] [(.int (Int32.ofNat uN)), (.int (Int32.ofNat cN)), (.int (2 : Int32)), (.int (Int32.ofNat (nn 2))), (.int ((own_below (Int32.ofNat (nn 0)) (0 : Int32) (Int32.ofNat cN) (Int32.ofNat uN)) + (own_below (Int32.ofNat (nn 1)) (1 : Int32) (Int32.ofNat cN) (Int32.ofNat uN))))])) t → Steps p.tables e below (T6.setTop (mkF m 23 #[.val (.ref pa), .val (.int (Int32.ofNat uN)), .val (.int (Int32.ofNat nN)), .val (.int (Int32.ofNat cN)), .val (.int (Int32.ofNat (nn 0))), .val (.int (Int32.ofNat (nn 1))), .val (.int (Int32.ofNat (nn 2))), .val (.int (Int32.ofNat (nn 3))), .unset] [(.int (own_below (Int32.ofNat (nn 1)) (1 : Int32) (Int32.ofNat cN) (Int32.ofNat uN))), (.int (own_below (Int32.ofNat (nn 0)) (0 : Int32) (Int32.ofNat cN) (Int32.ofNat uN)))])) t := fun t k => by
      refine XS.iadd X6.here hx rfl (hb hby own_d_method_4_code_23) rfl ?_
      show Steps p.tables e below (T6.setTop (mkF m 24 #[.val (.ref pa), .val (.int (Int32.ofNat uN)), .val (.int (Int32.ofNat nN)), .val (.int (Int32.ofNat cN)), .val (.int (Int32.ofNat (nn 0))), .val (.int (Int32.ofNat (nn 1))), .val (.int (Int32.ofNat (nn 2))), .val (.int (Int32.ofNat (nn 3))), .unset] [(.int ((own_below (Int32.ofNat (nn 0)) (0 : Int32) (Int32.ofNat cN) (Int32.ofNat uN)) + (own_below (Int32.ofNat (nn 1)) (1 : Int32) (Int32.ofNat cN) (Int32.ofNat uN))))])) _
      refine XS.iload X6.here hx rfl (hb hby own_d_method_4_code_24) rfl ?_
      show Steps p.tables e below (T6.setTop (mkF m 26 #[.val (.ref pa), .val (.int (Int32.ofNat uN)), .val (.int (Int32.ofNat nN)), .val (.int (Int32.ofNat cN)), .val (.int (Int32.ofNat (nn 0))), .val (.int (Int32.ofNat (nn 1))), .val (.int (Int32.ofNat (nn 2))), .val (.int (Int32.ofNat (nn 3))), .unset] [(.int (Int32.ofNat (nn 2))), (.int ((own_below (Int32.ofNat (nn 0)) (0 : Int32) (Int32.ofNat cN) (Int32.ofNat uN)) + (own_below (Int32.ofNat (nn 1)) (1 : Int32) (Int32.ofNat cN) (Int32.ofNat uN))))])) _
      refine XS.iconst X6.here hx rfl (hb hby own_d_method_4_code_26) ?_
      show Steps p.tables e below (T6.setTop (mkF m 27 #[.val (.ref pa), .val (.int (Int32.ofNat uN)), .val (.int (Int32.ofNat nN)), .val (.int (Int32.ofNat cN)), .val (.int (Int32.ofNat (nn 0))), .val (.int (Int32.ofNat (nn 1))), .val (.int (Int32.ofNat (nn 2))), .val (.int (Int32.ofNat (nn 3))), .unset] [(.int (2 : Int32)), (.int (Int32.ofNat (nn 2))), (.int ((own_below (Int32.ofNat (nn 0)) (0 : Int32) (Int32.ofNat cN) (Int32.ofNat uN)) + (own_below (Int32.ofNat (nn 1)) (1 : Int32) (Int32.ofNat cN) (Int32.ofNat uN))))])) _
      refine XS.iloadN X6.here hx rfl (hb hby own_d_method_4_code_27) rfl ?_
      show Steps p.tables e below (T6.setTop (mkF m 28 #[.val (.ref pa), .val (.int (Int32.ofNat uN)), .val (.int (Int32.ofNat nN)), .val (.int (Int32.ofNat cN)), .val (.int (Int32.ofNat (nn 0))), .val (.int (Int32.ofNat (nn 1))), .val (.int (Int32.ofNat (nn 2))), .val (.int (Int32.ofNat (nn 3))), .unset] [(.int (Int32.ofNat cN)), (.int (2 : Int32)), (.int (Int32.ofNat (nn 2))), (.int ((own_below (Int32.ofNat (nn 0)) (0 : Int32) (Int32.ofNat cN) (Int32.ofNat uN)) + (own_below (Int32.ofNat (nn 1)) (1 : Int32) (Int32.ofNat cN) (Int32.ofNat uN))))])) _
      refine XS.iloadN X6.here hx rfl (hb hby own_d_method_4_code_28) rfl ?_
      show Steps p.tables e below (T6.setTop (mkF m 29 #[.val (.ref pa), .val (.int (Int32.ofNat uN)), .val (.int (Int32.ofNat nN)), .val (.int (Int32.ofNat cN)), .val (.int (Int32.ofNat (nn 0))), .val (.int (Int32.ofNat (nn 1))), .val (.int (Int32.ofNat (nn 2))), .val (.int (Int32.ofNat (nn 3))), .unset] [(.int (Int32.ofNat uN)), (.int (Int32.ofNat cN)), (.int (2 : Int32)), (.int (Int32.ofNat (nn 2))), (.int ((own_below (Int32.ofNat (nn 0)) (0 : Int32) (Int32.ofNat cN) (Int32.ofNat uN)) + (own_below (Int32.ofNat (nn 1)) (1 : Int32) (Int32.ofNat cN) (Int32.ofNat uN))))])) _
      exact k
    refine own_go k9 ?_
    clear k9
    obtain ⟨_, _, ⟨T8, L8, k8, n8⟩, -, X8, ⟨Lc8, hQ8, l8, y8, z8⟩, st8⟩ := Jvm.LawKit.callS X6 hx (y := (⟨"com/example/chronopath/chronopath/network/NetworkFirstSlotsPinLaw", "below", "(IIII)I"⟩ : MethodName)) hown (mvT hZ (hw _ (List.mem_of_getElem? (i := 10) rfl))) (mvT hZ (hw _ (List.mem_of_getElem? (i := 11) rfl))) (mvT hZ (hw _ (List.mem_of_getElem? (i := 8) rfl))) (mvT hZ (hw _ (List.mem_of_getElem? (i := 12) rfl))) (by decide) (backOf (W := 1) (own_rm_below l Z a0 hw [] (Int32.ofNat (nn 2)) (2 : Int32) (Int32.ofNat cN) (Int32.ofNat uN) h0 n0 Z0 ) hZ (hw _ (List.mem_of_getElem? (i := 12) rfl)) (hw _ (List.mem_of_getElem? (i := 8) rfl)) (by decide) (by decide)) (g := (mkF m 29 #[.val (.ref pa), .val (.int (Int32.ofNat uN)), .val (.int (Int32.ofNat nN)), .val (.int (Int32.ofNat cN)), .val (.int (Int32.ofNat (nn 0))), .val (.int (Int32.ofNat (nn 1))), .val (.int (Int32.ofNat (nn 2))), .val (.int (Int32.ofNat (nn 3))), .unset] [(.int (Int32.ofNat uN)), (.int (Int32.ofNat cN)), (.int (2 : Int32)), (.int (Int32.ofNat (nn 2))), (.int ((own_below (Int32.ofNat (nn 0)) (0 : Int32) (Int32.ofNat cN) (Int32.ofNat uN)) + (own_below (Int32.ofNat (nn 1)) (1 : Int32) (Int32.ofNat cN) (Int32.ofNat uN))))])) rfl (by rw [hml]; rfl) (argsL := [(.int (Int32.ofNat (nn 2))), (.int (2 : Int32)), (.int (Int32.ofNat cN)), (.int (Int32.ofNat uN))]) (rest := [(.int ((own_below (Int32.ofNat (nn 0)) (0 : Int32) (Int32.ofNat cN) (Int32.ofNat uN)) + (own_below (Int32.ofNat (nn 1)) (1 : Int32) (Int32.ofNat cN) (Int32.ofNat uN))))]) (lenOf own_pd_28IIII29I rfl) rfl (by show 2 * 0 + _ ≤ _; exact Nat.le_of_eq rfl) (hb hby own_d_method_4_code_29) (fun _ _ => ⟨rfl, eh6, (by decide : 0 + 0 ≤ _), (by decide : 0 + 0 ≤ _)⟩)
    dsimp only [Pt.U, Pt.locs, Pt.cells, Pt.slots] at X8 l8 y8 z8 st8 hQ8
    subst l8 y8 z8
    obtain ⟨rfl, N8q, eh8⟩ := hQ8
    have N8 := Fr.app N6 N8q
    refine own_go st8 ?_
    have k11 : ∀ t, Steps p.tables e below (T8.setTop (mkF m 38 #[.val (.ref pa), .val (.int (Int32.ofNat uN)), .val (.int (Int32.ofNat nN)), .val (.int (Int32.ofNat cN)), .val (.int (Int32.ofNat (nn 0))), .val (.int (Int32.ofNat (nn 1))), .val (.int (Int32.ofNat (nn 2))), .val (.int (Int32.ofNat (nn 3))), .unset] [(.int (Int32.ofNat uN)), (.int (Int32.ofNat cN)), (.int (3 : Int32)), (.int (Int32.ofNat (nn 3))), (.int (((own_below (Int32.ofNat (nn 0)) (0 : Int32) (Int32.ofNat cN) (Int32.ofNat uN)) + (own_below (Int32.ofNat (nn 1)) (1 : Int32) (Int32.ofNat cN) (Int32.ofNat uN))) + (own_below (Int32.ofNat (nn 2)) (2 : Int32) (Int32.ofNat cN) (Int32.ofNat uN))))])) t → Steps p.tables e below (T8.setTop (mkF m 32 #[.val (.ref pa), .val (.int (Int32.ofNat uN)), .val (.int (Int32.ofNat nN)), .val (.int (Int32.ofNat cN)), .val (.int (Int32.ofNat (nn 0))), .val (.int (Int32.ofNat (nn 1))), .val (.int (Int32.ofNat (nn 2))), .val (.int (Int32.ofNat (nn 3))), .unset] [(.int (own_below (Int32.ofNat (nn 2)) (2 : Int32) (Int32.ofNat cN) (Int32.ofNat uN))), (.int ((own_below (Int32.ofNat (nn 0)) (0 : Int32) (Int32.ofNat cN) (Int32.ofNat uN)) + (own_below (Int32.ofNat (nn 1)) (1 : Int32) (Int32.ofNat cN) (Int32.ofNat uN))))])) t := fun t k => by
      refine XS.iadd X8.here hx rfl (hb hby own_d_method_4_code_32) rfl ?_
      show Steps p.tables e below (T8.setTop (mkF m 33 #[.val (.ref pa), .val (.int (Int32.ofNat uN)), .val (.int (Int32.ofNat nN)), .val (.int (Int32.ofNat cN)), .val (.int (Int32.ofNat (nn 0))), .val (.int (Int32.ofNat (nn 1))), .val (.int (Int32.ofNat (nn 2))), .val (.int (Int32.ofNat (nn 3))), .unset] [(.int (((own_below (Int32.ofNat (nn 0)) (0 : Int32) (Int32.ofNat cN) (Int32.ofNat uN)) + (own_below (Int32.ofNat (nn 1)) (1 : Int32) (Int32.ofNat cN) (Int32.ofNat uN))) + (own_below (Int32.ofNat (nn 2)) (2 : Int32) (Int32.ofNat cN) (Int32.ofNat uN))))])) _
      refine XS.iload X8.here hx rfl (hb hby own_d_method_4_code_33) rfl ?_
      show Steps p.tables e below (T8.setTop (mkF m 35 #[.val (.ref pa), .val (.int (Int32.ofNat uN)), .val (.int (Int32.ofNat nN)), .val (.int (Int32.ofNat cN)), .val (.int (Int32.ofNat (nn 0))), .val (.int (Int32.ofNat (nn 1))), .val (.int (Int32.ofNat (nn 2))), .val (.int (Int32.ofNat (nn 3))), .unset] [(.int (Int32.ofNat (nn 3))), (.int (((own_below (Int32.ofNat (nn 0)) (0 : Int32) (Int32.ofNat cN) (Int32.ofNat uN)) + (own_below (Int32.ofNat (nn 1)) (1 : Int32) (Int32.ofNat cN) (Int32.ofNat uN))) + (own_below (Int32.ofNat (nn 2)) (2 : Int32) (Int32.ofNat cN) (Int32.ofNat uN))))])) _
      refine XS.iconst X8.here hx rfl (hb hby own_d_method_4_code_35) ?_
      show Steps p.tables e below (T8.setTop (mkF m 36 #[.val (.ref pa), .val (.int (Int32.ofNat uN)), .val (.int (Int32.ofNat nN)), .val (.int (Int32.ofNat cN)), .val (.int (Int32.ofNat (nn 0))), .val (.int (Int32.ofNat (nn 1))), .val (.int (Int32.ofNat (nn 2))), .val (.int (Int32.ofNat (nn 3))), .unset] [(.int (3 : Int32)), (.int (Int32.ofNat (nn 3))), (.int (((own_below (Int32.ofNat (nn 0)) (0 : Int32) (Int32.ofNat cN) (Int32.ofNat uN)) + (own_below (Int32.ofNat (nn 1)) (1 : Int32) (Int32.ofNat cN) (Int32.ofNat uN))) + (own_below (Int32.ofNat (nn 2)) (2 : Int32) (Int32.ofNat cN) (Int32.ofNat uN))))])) _
      refine XS.iloadN X8.here hx rfl (hb hby own_d_method_4_code_36) rfl ?_
      show Steps p.tables e below (T8.setTop (mkF m 37 #[.val (.ref pa), .val (.int (Int32.ofNat uN)), .val (.int (Int32.ofNat nN)), .val (.int (Int32.ofNat cN)), .val (.int (Int32.ofNat (nn 0))), .val (.int (Int32.ofNat (nn 1))), .val (.int (Int32.ofNat (nn 2))), .val (.int (Int32.ofNat (nn 3))), .unset] [(.int (Int32.ofNat cN)), (.int (3 : Int32)), (.int (Int32.ofNat (nn 3))), (.int (((own_below (Int32.ofNat (nn 0)) (0 : Int32) (Int32.ofNat cN) (Int32.ofNat uN)) + (own_below (Int32.ofNat (nn 1)) (1 : Int32) (Int32.ofNat cN) (Int32.ofNat uN))) + (own_below (Int32.ofNat (nn 2)) (2 : Int32) (Int32.ofNat cN) (Int32.ofNat uN))))])) _
      refine XS.iloadN X8.here hx rfl (hb hby own_d_method_4_code_37) rfl ?_
      show Steps p.tables e below (T8.setTop (mkF m 38 #[.val (.ref pa), .val (.int (Int32.ofNat uN)), .val (.int (Int32.ofNat nN)), .val (.int (Int32.ofNat cN)), .val (.int (Int32.ofNat (nn 0))), .val (.int (Int32.ofNat (nn 1))), .val (.int (Int32.ofNat (nn 2))), .val (.int (Int32.ofNat (nn 3))), .unset] [(.int (Int32.ofNat uN)), (.int (Int32.ofNat cN)), (.int (3 : Int32)), (.int (Int32.ofNat (nn 3))), (.int (((own_below (Int32.ofNat (nn 0)) (0 : Int32) (Int32.ofNat cN) (Int32.ofNat uN)) + (own_below (Int32.ofNat (nn 1)) (1 : Int32) (Int32.ofNat cN) (Int32.ofNat uN))) + (own_below (Int32.ofNat (nn 2)) (2 : Int32) (Int32.ofNat cN) (Int32.ofNat uN))))])) _
      exact k
    refine own_go k11 ?_
    clear k11
    obtain ⟨_, _, ⟨T10, L10, k10, n10⟩, -, X10, ⟨Lc10, hQ10, l10, y10, z10⟩, st10⟩ := Jvm.LawKit.callS X8 hx (y := (⟨"com/example/chronopath/chronopath/network/NetworkFirstSlotsPinLaw", "below", "(IIII)I"⟩ : MethodName)) hown (mvT hZ (hw _ (List.mem_of_getElem? (i := 10) rfl))) (mvT hZ (hw _ (List.mem_of_getElem? (i := 11) rfl))) (mvT hZ (hw _ (List.mem_of_getElem? (i := 8) rfl))) (mvT hZ (hw _ (List.mem_of_getElem? (i := 12) rfl))) (by decide) (backOf (W := 1) (own_rm_below l Z a0 hw [] (Int32.ofNat (nn 3)) (3 : Int32) (Int32.ofNat cN) (Int32.ofNat uN) h0 n0 Z0 ) hZ (hw _ (List.mem_of_getElem? (i := 12) rfl)) (hw _ (List.mem_of_getElem? (i := 8) rfl)) (by decide) (by decide)) (g := (mkF m 38 #[.val (.ref pa), .val (.int (Int32.ofNat uN)), .val (.int (Int32.ofNat nN)), .val (.int (Int32.ofNat cN)), .val (.int (Int32.ofNat (nn 0))), .val (.int (Int32.ofNat (nn 1))), .val (.int (Int32.ofNat (nn 2))), .val (.int (Int32.ofNat (nn 3))), .unset] [(.int (Int32.ofNat uN)), (.int (Int32.ofNat cN)), (.int (3 : Int32)), (.int (Int32.ofNat (nn 3))), (.int (((own_below (Int32.ofNat (nn 0)) (0 : Int32) (Int32.ofNat cN) (Int32.ofNat uN)) + (own_below (Int32.ofNat (nn 1)) (1 : Int32) (Int32.ofNat cN) (Int32.ofNat uN))) + (own_below (Int32.ofNat (nn 2)) (2 : Int32) (Int32.ofNat cN) (Int32.ofNat uN))))])) rfl (by rw [hml]; rfl) (argsL := [(.int (Int32.ofNat (nn 3))), (.int (3 : Int32)), (.int (Int32.ofNat cN)), (.int (Int32.ofNat uN))]) (rest := [(.int (((own_below (Int32.ofNat (nn 0)) (0 : Int32) (Int32.ofNat cN) (Int32.ofNat uN)) + (own_below (Int32.ofNat (nn 1)) (1 : Int32) (Int32.ofNat cN) (Int32.ofNat uN))) + (own_below (Int32.ofNat (nn 2)) (2 : Int32) (Int32.ofNat cN) (Int32.ofNat uN))))]) (lenOf own_pd_28IIII29I rfl) rfl (by show 2 * 0 + _ ≤ _; exact Nat.le_of_eq rfl) (hb hby own_d_method_4_code_38) (fun _ _ => ⟨rfl, eh8, (by decide : 0 + 0 ≤ _), (by decide : 0 + 0 ≤ _)⟩)
    dsimp only [Pt.U, Pt.locs, Pt.cells, Pt.slots] at X10 l10 y10 z10 st10 hQ10
    subst l10 y10 z10
    obtain ⟨rfl, N10q, eh10⟩ := hQ10
    have N10 := Fr.app N8 N10q
    refine own_go st10 ?_
    have k12 : ∀ t, Steps p.tables e below (T10.setTop (mkF m 46 #[.val (.ref pa), .val (.int (Int32.ofNat uN)), .val (.int (Int32.ofNat nN)), .val (.int (Int32.ofNat cN)), .val (.int (Int32.ofNat (nn 0))), .val (.int (Int32.ofNat (nn 1))), .val (.int (Int32.ofNat (nn 2))), .val (.int (Int32.ofNat (nn 3))), .val (.int ((((own_below (Int32.ofNat (nn 0)) (0 : Int32) (Int32.ofNat cN) (Int32.ofNat uN)) + (own_below (Int32.ofNat (nn 1)) (1 : Int32) (Int32.ofNat cN) (Int32.ofNat uN))) + (own_below (Int32.ofNat (nn 2)) (2 : Int32) (Int32.ofNat cN) (Int32.ofNat uN))) + (own_below (Int32.ofNat (nn 3)) (3 : Int32) (Int32.ofNat cN) (Int32.ofNat uN))))] [(.int (Int32.ofNat uN)), (.ref pa)])) t → Steps p.tables e below (T10.setTop (mkF m 41 #[.val (.ref pa), .val (.int (Int32.ofNat uN)), .val (.int (Int32.ofNat nN)), .val (.int (Int32.ofNat cN)), .val (.int (Int32.ofNat (nn 0))), .val (.int (Int32.ofNat (nn 1))), .val (.int (Int32.ofNat (nn 2))), .val (.int (Int32.ofNat (nn 3))), .unset] [(.int (own_below (Int32.ofNat (nn 3)) (3 : Int32) (Int32.ofNat cN) (Int32.ofNat uN))), (.int (((own_below (Int32.ofNat (nn 0)) (0 : Int32) (Int32.ofNat cN) (Int32.ofNat uN)) + (own_below (Int32.ofNat (nn 1)) (1 : Int32) (Int32.ofNat cN) (Int32.ofNat uN))) + (own_below (Int32.ofNat (nn 2)) (2 : Int32) (Int32.ofNat cN) (Int32.ofNat uN))))])) t := fun t k => by
      refine XS.iadd X10.here hx rfl (hb hby own_d_method_4_code_41) rfl ?_
      show Steps p.tables e below (T10.setTop (mkF m 42 #[.val (.ref pa), .val (.int (Int32.ofNat uN)), .val (.int (Int32.ofNat nN)), .val (.int (Int32.ofNat cN)), .val (.int (Int32.ofNat (nn 0))), .val (.int (Int32.ofNat (nn 1))), .val (.int (Int32.ofNat (nn 2))), .val (.int (Int32.ofNat (nn 3))), .unset] [(.int ((((own_below (Int32.ofNat (nn 0)) (0 : Int32) (Int32.ofNat cN) (Int32.ofNat uN)) + (own_below (Int32.ofNat (nn 1)) (1 : Int32) (Int32.ofNat cN) (Int32.ofNat uN))) + (own_below (Int32.ofNat (nn 2)) (2 : Int32) (Int32.ofNat cN) (Int32.ofNat uN))) + (own_below (Int32.ofNat (nn 3)) (3 : Int32) (Int32.ofNat cN) (Int32.ofNat uN))))])) _
      refine XS.istore X10.here hx rfl (hb hby own_d_method_4_code_42) rfl (l' := #[.val (.ref pa), .val (.int (Int32.ofNat uN)), .val (.int (Int32.ofNat nN)), .val (.int (Int32.ofNat cN)), .val (.int (Int32.ofNat (nn 0))), .val (.int (Int32.ofNat (nn 1))), .val (.int (Int32.ofNat (nn 2))), .val (.int (Int32.ofNat (nn 3))), .val (.int ((((own_below (Int32.ofNat (nn 0)) (0 : Int32) (Int32.ofNat cN) (Int32.ofNat uN)) + (own_below (Int32.ofNat (nn 1)) (1 : Int32) (Int32.ofNat cN) (Int32.ofNat uN))) + (own_below (Int32.ofNat (nn 2)) (2 : Int32) (Int32.ofNat cN) (Int32.ofNat uN))) + (own_below (Int32.ofNat (nn 3)) (3 : Int32) (Int32.ofNat cN) (Int32.ofNat uN))))]) rfl ?_
      show Steps p.tables e below (T10.setTop (mkF m 44 #[.val (.ref pa), .val (.int (Int32.ofNat uN)), .val (.int (Int32.ofNat nN)), .val (.int (Int32.ofNat cN)), .val (.int (Int32.ofNat (nn 0))), .val (.int (Int32.ofNat (nn 1))), .val (.int (Int32.ofNat (nn 2))), .val (.int (Int32.ofNat (nn 3))), .val (.int ((((own_below (Int32.ofNat (nn 0)) (0 : Int32) (Int32.ofNat cN) (Int32.ofNat uN)) + (own_below (Int32.ofNat (nn 1)) (1 : Int32) (Int32.ofNat cN) (Int32.ofNat uN))) + (own_below (Int32.ofNat (nn 2)) (2 : Int32) (Int32.ofNat cN) (Int32.ofNat uN))) + (own_below (Int32.ofNat (nn 3)) (3 : Int32) (Int32.ofNat cN) (Int32.ofNat uN))))] [])) _
      refine XS.aloadN X10.here hx rfl (hb hby own_d_method_4_code_44) rfl rfl ?_
      show Steps p.tables e below (T10.setTop (mkF m 45 #[.val (.ref pa), .val (.int (Int32.ofNat uN)), .val (.int (Int32.ofNat nN)), .val (.int (Int32.ofNat cN)), .val (.int (Int32.ofNat (nn 0))), .val (.int (Int32.ofNat (nn 1))), .val (.int (Int32.ofNat (nn 2))), .val (.int (Int32.ofNat (nn 3))), .val (.int ((((own_below (Int32.ofNat (nn 0)) (0 : Int32) (Int32.ofNat cN) (Int32.ofNat uN)) + (own_below (Int32.ofNat (nn 1)) (1 : Int32) (Int32.ofNat cN) (Int32.ofNat uN))) + (own_below (Int32.ofNat (nn 2)) (2 : Int32) (Int32.ofNat cN) (Int32.ofNat uN))) + (own_below (Int32.ofNat (nn 3)) (3 : Int32) (Int32.ofNat cN) (Int32.ofNat uN))))] [(.ref pa)])) _
      refine XS.iloadN X10.here hx rfl (hb hby own_d_method_4_code_45) rfl ?_
      show Steps p.tables e below (T10.setTop (mkF m 46 #[.val (.ref pa), .val (.int (Int32.ofNat uN)), .val (.int (Int32.ofNat nN)), .val (.int (Int32.ofNat cN)), .val (.int (Int32.ofNat (nn 0))), .val (.int (Int32.ofNat (nn 1))), .val (.int (Int32.ofNat (nn 2))), .val (.int (Int32.ofNat (nn 3))), .val (.int ((((own_below (Int32.ofNat (nn 0)) (0 : Int32) (Int32.ofNat cN) (Int32.ofNat uN)) + (own_below (Int32.ofNat (nn 1)) (1 : Int32) (Int32.ofNat cN) (Int32.ofNat uN))) + (own_below (Int32.ofNat (nn 2)) (2 : Int32) (Int32.ofNat cN) (Int32.ofNat uN))) + (own_below (Int32.ofNat (nn 3)) (3 : Int32) (Int32.ofNat cN) (Int32.ofNat uN))))] [(.int (Int32.ofNat uN)), (.ref pa)])) _
      exact k
    refine own_go k12 ?_
    clear k12
    obtain ⟨cl13, Ar13, -, S13, -, H13, -⟩ := id (V0)
    have hun : uN ≤ nN := own_le (by omega) (by omega) hc2_2
    have hi13 : ¬ ((Int32.ofNat uN) < 0 ∨ cl13.slots.size ≤ ((Int32.ofNat uN)).toNatClampNeg) := inb_of S13 (own_in (by omega) (by omega))
    have hv13 : cl13.slots[((Int32.ofNat uN)).toNatClampNeg]? = some (.int (own_f nn cN uN)) := H13.at hi13 (own_get (by omega) (by omega))
    have k14 : ∀ t, Steps p.tables e below (T10.setTop (mkF m 57 #[.val (.ref pa), .val (.int (Int32.ofNat uN)), .val (.int (Int32.ofNat nN)), .val (.int (Int32.ofNat cN)), .val (.int (Int32.ofNat (nn 0))), .val (.int (Int32.ofNat (nn 1))), .val (.int (Int32.ofNat (nn 2))), .val (.int (Int32.ofNat (nn 3))), .val (.int ((((own_below (Int32.ofNat (nn 0)) (0 : Int32) (Int32.ofNat cN) (Int32.ofNat uN)) + (own_below (Int32.ofNat (nn 1)) (1 : Int32) (Int32.ofNat cN) (Int32.ofNat uN))) + (own_below (Int32.ofNat (nn 2)) (2 : Int32) (Int32.ofNat cN) (Int32.ofNat uN))) + (own_below (Int32.ofNat (nn 3)) (3 : Int32) (Int32.ofNat cN) (Int32.ofNat uN))))] [(.int (1 : Int32))])) t → Steps p.tables e below (T10.setTop (mkF m 46 #[.val (.ref pa), .val (.int (Int32.ofNat uN)), .val (.int (Int32.ofNat nN)), .val (.int (Int32.ofNat cN)), .val (.int (Int32.ofNat (nn 0))), .val (.int (Int32.ofNat (nn 1))), .val (.int (Int32.ofNat (nn 2))), .val (.int (Int32.ofNat (nn 3))), .val (.int ((((own_below (Int32.ofNat (nn 0)) (0 : Int32) (Int32.ofNat cN) (Int32.ofNat uN)) + (own_below (Int32.ofNat (nn 1)) (1 : Int32) (Int32.ofNat cN) (Int32.ofNat uN))) + (own_below (Int32.ofNat (nn 2)) (2 : Int32) (Int32.ofNat cN) (Int32.ofNat uN))) + (own_below (Int32.ofNat (nn 3)) (3 : Int32) (Int32.ofNat cN) (Int32.ofNat uN))))] [(.int (Int32.ofNat uN)), (.ref pa)])) t := fun t k => by
      refine X10.iaload hx (j := (Int32.ofNat uN)) (v := (.int (own_f nn cN uN))) (by rw [eh10]; exact Ar13.1) (State.isArrayOf_alike hZ.alike Ar13.2.1) Ar13.2.2 hi13 hv13 (g := (mkF m 46 #[.val (.ref pa), .val (.int (Int32.ofNat uN)), .val (.int (Int32.ofNat nN)), .val (.int (Int32.ofNat cN)), .val (.int (Int32.ofNat (nn 0))), .val (.int (Int32.ofNat (nn 1))), .val (.int (Int32.ofNat (nn 2))), .val (.int (Int32.ofNat (nn 3))), .val (.int ((((own_below (Int32.ofNat (nn 0)) (0 : Int32) (Int32.ofNat cN) (Int32.ofNat uN)) + (own_below (Int32.ofNat (nn 1)) (1 : Int32) (Int32.ofNat cN) (Int32.ofNat uN))) + (own_below (Int32.ofNat (nn 2)) (2 : Int32) (Int32.ofNat cN) (Int32.ofNat uN))) + (own_below (Int32.ofNat (nn 3)) (3 : Int32) (Int32.ofNat cN) (Int32.ofNat uN))))] [(.int (Int32.ofNat uN)), (.ref pa)])) rfl rfl (hb hby own_d_method_4_code_46) _ ?_
      show Steps p.tables e below (T10.setTop (mkF m 47 #[.val (.ref pa), .val (.int (Int32.ofNat uN)), .val (.int (Int32.ofNat nN)), .val (.int (Int32.ofNat cN)), .val (.int (Int32.ofNat (nn 0))), .val (.int (Int32.ofNat (nn 1))), .val (.int (Int32.ofNat (nn 2))), .val (.int (Int32.ofNat (nn 3))), .val (.int ((((own_below (Int32.ofNat (nn 0)) (0 : Int32) (Int32.ofNat cN) (Int32.ofNat uN)) + (own_below (Int32.ofNat (nn 1)) (1 : Int32) (Int32.ofNat cN) (Int32.ofNat uN))) + (own_below (Int32.ofNat (nn 2)) (2 : Int32) (Int32.ofNat cN) (Int32.ofNat uN))) + (own_below (Int32.ofNat (nn 3)) (3 : Int32) (Int32.ofNat cN) (Int32.ofNat uN))))] [(.int (own_f nn cN uN))])) _
      refine XS.iload X10.here hx rfl (hb hby own_d_method_4_code_47) rfl ?_
      show Steps p.tables e below (T10.setTop (mkF m 49 #[.val (.ref pa), .val (.int (Int32.ofNat uN)), .val (.int (Int32.ofNat nN)), .val (.int (Int32.ofNat cN)), .val (.int (Int32.ofNat (nn 0))), .val (.int (Int32.ofNat (nn 1))), .val (.int (Int32.ofNat (nn 2))), .val (.int (Int32.ofNat (nn 3))), .val (.int ((((own_below (Int32.ofNat (nn 0)) (0 : Int32) (Int32.ofNat cN) (Int32.ofNat uN)) + (own_below (Int32.ofNat (nn 1)) (1 : Int32) (Int32.ofNat cN) (Int32.ofNat uN))) + (own_below (Int32.ofNat (nn 2)) (2 : Int32) (Int32.ofNat cN) (Int32.ofNat uN))) + (own_below (Int32.ofNat (nn 3)) (3 : Int32) (Int32.ofNat cN) (Int32.ofNat uN))))] [(.int ((((own_below (Int32.ofNat (nn 0)) (0 : Int32) (Int32.ofNat cN) (Int32.ofNat uN)) + (own_below (Int32.ofNat (nn 1)) (1 : Int32) (Int32.ofNat cN) (Int32.ofNat uN))) + (own_below (Int32.ofNat (nn 2)) (2 : Int32) (Int32.ofNat cN) (Int32.ofNat uN))) + (own_below (Int32.ofNat (nn 3)) (3 : Int32) (Int32.ofNat cN) (Int32.ofNat uN)))), (.int (own_f nn cN uN))])) _
      refine XS.icmpNo X10.here hx rfl (hb hby own_d_method_4_code_49) rfl (teq (own_want hc4 (by omega) (fun t ht => by have := hnn t ht; omega))).2 ?_
      show Steps p.tables e below (T10.setTop (mkF m 52 #[.val (.ref pa), .val (.int (Int32.ofNat uN)), .val (.int (Int32.ofNat nN)), .val (.int (Int32.ofNat cN)), .val (.int (Int32.ofNat (nn 0))), .val (.int (Int32.ofNat (nn 1))), .val (.int (Int32.ofNat (nn 2))), .val (.int (Int32.ofNat (nn 3))), .val (.int ((((own_below (Int32.ofNat (nn 0)) (0 : Int32) (Int32.ofNat cN) (Int32.ofNat uN)) + (own_below (Int32.ofNat (nn 1)) (1 : Int32) (Int32.ofNat cN) (Int32.ofNat uN))) + (own_below (Int32.ofNat (nn 2)) (2 : Int32) (Int32.ofNat cN) (Int32.ofNat uN))) + (own_below (Int32.ofNat (nn 3)) (3 : Int32) (Int32.ofNat cN) (Int32.ofNat uN))))] [])) _
      refine XS.iconst X10.here hx rfl (hb hby own_d_method_4_code_52) ?_
      show Steps p.tables e below (T10.setTop (mkF m 53 #[.val (.ref pa), .val (.int (Int32.ofNat uN)), .val (.int (Int32.ofNat nN)), .val (.int (Int32.ofNat cN)), .val (.int (Int32.ofNat (nn 0))), .val (.int (Int32.ofNat (nn 1))), .val (.int (Int32.ofNat (nn 2))), .val (.int (Int32.ofNat (nn 3))), .val (.int ((((own_below (Int32.ofNat (nn 0)) (0 : Int32) (Int32.ofNat cN) (Int32.ofNat uN)) + (own_below (Int32.ofNat (nn 1)) (1 : Int32) (Int32.ofNat cN) (Int32.ofNat uN))) + (own_below (Int32.ofNat (nn 2)) (2 : Int32) (Int32.ofNat cN) (Int32.ofNat uN))) + (own_below (Int32.ofNat (nn 3)) (3 : Int32) (Int32.ofNat cN) (Int32.ofNat uN))))] [(.int (1 : Int32))])) _
      refine XS.goto X10.here hx rfl (pc0 := 53) (pc' := 57) rfl (hb hby own_d_method_4_code_53) (by decide) (by decide) ?_
      show Steps p.tables e below (T10.setTop (mkF m 57 #[.val (.ref pa), .val (.int (Int32.ofNat uN)), .val (.int (Int32.ofNat nN)), .val (.int (Int32.ofNat cN)), .val (.int (Int32.ofNat (nn 0))), .val (.int (Int32.ofNat (nn 1))), .val (.int (Int32.ofNat (nn 2))), .val (.int (Int32.ofNat (nn 3))), .val (.int ((((own_below (Int32.ofNat (nn 0)) (0 : Int32) (Int32.ofNat cN) (Int32.ofNat uN)) + (own_below (Int32.ofNat (nn 1)) (1 : Int32) (Int32.ofNat cN) (Int32.ofNat uN))) + (own_below (Int32.ofNat (nn 2)) (2 : Int32) (Int32.ofNat cN) (Int32.ofNat uN))) + (own_below (Int32.ofNat (nn 3)) (3 : Int32) (Int32.ofNat cN) (Int32.ofNat uN))))] [(.int (1 : Int32))])) _
      exact k
    refine own_go k14 ?_
    clear k14
    obtain ⟨fs, hr, hrun, hended, hW, hsame⟩ := X10.leave (v := some (.int (nar .boolean (1 : Int32)))) (fun h => by rw [Bd.returns] at h; cases h)
    refine ⟨_, _, retN X10 hx (t := .boolean) Bd.returns (by simp) (hb hby own_d_method_4_code_57) hr, hPf _ _ ⟨hrun, hended, _, _, rfl, ?_, ⟨_, rfl⟩, hW, hsame.mono (by decide) (by decide)⟩⟩
    show own_Q_slot Z pa uN nN cN nn ck h0 n0 _ T10.heap _
    rw [eh10]
    exact ⟨rfl, N10, rfl⟩
theorem own_pd_28I5bII295bI : parseMethodDescriptor "(I[II)[I" = some ⟨[.int, (.array .int), .int], some (.array .int)⟩ := by decide +kernel
theorem own_pd_285bIIIIIIII29Z : parseMethodDescriptor "([IIIIIIII)Z" = some ⟨[(.array .int), .int, .int, .int, .int, .int, .int, .int], some .boolean⟩ := by decide +kernel
theorem own_ef_law (m : MethodId) (x0 : Int32) (x1 : Int32) (x2 : Int32) (x3 : Int32) (x4 : Int32) (x5 : Int32) : entryFrame m #[(.int x0), (.int x1), (.int x2), (.int x3), (.int x4), (.int x5)] maxLocals = mkF m 0 #[.val (.int x0), .val (.int x1), .val (.int x2), .val (.int x3), .val (.int x4), .val (.int x5), .unset, .unset, .unset, .unset, .unset, .unset, .unset, .unset, .unset, .unset] [] := by first | (simp [entryFrame, mkF, argsToLocals, Value.category, maxLocals]; done) | rfl
def own_Q_law (Z : State) (p0 : Int32) (p1 : Int32) (p2 : Int32) (p3 : Int32) (p4 : Int32) (p5 : Int32)  (h0 : Heap) (n0 : Nat) (v : Option Value) (h : Heap) (L : List Loc) : Prop := v = some (.int 1) ∧ Fr n0 L
set_option maxRecDepth 65536 in
set_option maxHeartbeats 40000000 in
theorem own_rm_law (l : Launch) (Z : State) (a0 : Array Value) (hw : ∀ d ∈ tables_1, d.before a0 Z = true) (ws : List Jvm.Cond) (p0 : Int32) (p1 : Int32) (p2 : Int32) (p3 : Int32) (p4 : Int32) (p5 : Int32)  (h0 : Heap) (n0 : Nat) (Z0 : n0 ≤ h0.size) :
    MetFree l x (head1 (Jvm.Cond.code x code maxLocals ret :: ws) room_1) (fun a U => a = #[(.int p0), (.int p1), (.int p2), (.int p3), (.int p4), (.int p5)] ∧ Z.Warmed39 U.vm ∧ U.heap = h0) (fun _ _ _ _ _ => True) (fun _ U o U' => ∃ v L, o = .returned v ∧ own_Q_law Z p0 p1 p2 p3 p4 p5 h0 n0 v U'.heap L ∧ FrameEnd U o U' L room_1.cells room_1.slots) := by
  refine MetFree.of_bodySF (plainFor_of_name own_pn_com_example_chronopath_chronopath_network_NetworkFirstSlotsPinLaw) hisR ?_
  intro p e s m args below meth c s₁ Bd hml0 hP hKq_
  obtain ⟨rfl, hZ, hh⟩ := hP
  have hx := Bd.exec
  have hby := Bd.bytes
  have hml : c.maxLocals = 16 := hml0
  have hown : s.vm.findClass "com/example/chronopath/chronopath/network/NetworkFirstSlotsPinLaw" = some m.cls := findClass_of_methodNamed Bd.named
  have hnm := (name_of_methodNamed Bd.named Bd.method).1
  have X0 : Stand p l e room_1 s m #[(.int p0), (.int p1), (.int p2), (.int p3), (.int p4), (.int p5)] below meth c s₁ [] 0 0 := Stand.of_body Bd
  have e0 : s₁.heap = h0 := by rw [← hh, Bd.state]; rfl
  have N0 := Fr.nil n0
  have pre0 : ∀ t, Steps p.tables e below (s₁.setTop (mkF m 0 #[.val (.int p0), .val (.int p1), .val (.int p2), .val (.int p3), .val (.int p4), .val (.int p5), .unset, .unset, .unset, .unset, .unset, .unset, .unset, .unset, .unset, .unset] [])) t → Steps p.tables e below (s₁.setTop (entryFrame m #[(.int p0), (.int p1), (.int p2), (.int p3), (.int p4), (.int p5)] maxLocals)) t := fun t k => castTop (own_ef_law m p0 p1 p2 p3 p4 p5) k
  refine own_go pre0 ?_
  refine own_abs ?_
  intro Pf hPf
  have k1 : ∀ t, Steps p.tables e below (s₁.setTop (mkF m 8 #[.val (.int p0), .val (.int p1), .val (.int p2), .val (.int p3), .val (.int p4), .val (.int p5), .val (.int ((p0 &&& (7 : Int32)) % (5 : Int32))), .unset, .unset, .unset, .unset, .unset, .unset, .unset, .unset, .unset] [])) t → Steps p.tables e below (s₁.setTop (mkF m 0 #[.val (.int p0), .val (.int p1), .val (.int p2), .val (.int p3), .val (.int p4), .val (.int p5), .unset, .unset, .unset, .unset, .unset, .unset, .unset, .unset, .unset, .unset] [])) t := fun t k => by
    refine XS.iloadN X0.here hx rfl (hb hby at_0) rfl ?_
    show Steps p.tables e below (s₁.setTop (mkF m 1 #[.val (.int p0), .val (.int p1), .val (.int p2), .val (.int p3), .val (.int p4), .val (.int p5), .unset, .unset, .unset, .unset, .unset, .unset, .unset, .unset, .unset, .unset] [(.int p0)])) _
    refine XS.bipush X0.here hx rfl (hb hby at_1) ?_
    show Steps p.tables e below (s₁.setTop (mkF m 3 #[.val (.int p0), .val (.int p1), .val (.int p2), .val (.int p3), .val (.int p4), .val (.int p5), .unset, .unset, .unset, .unset, .unset, .unset, .unset, .unset, .unset, .unset] [(.int (7 : Int32)), (.int p0)])) _
    refine XS.iand X0.here hx rfl (hb hby at_3) rfl ?_
    show Steps p.tables e below (s₁.setTop (mkF m 4 #[.val (.int p0), .val (.int p1), .val (.int p2), .val (.int p3), .val (.int p4), .val (.int p5), .unset, .unset, .unset, .unset, .unset, .unset, .unset, .unset, .unset, .unset] [(.int (p0 &&& (7 : Int32)))])) _
    refine XS.iconst X0.here hx rfl (hb hby at_4) ?_
    show Steps p.tables e below (s₁.setTop (mkF m 5 #[.val (.int p0), .val (.int p1), .val (.int p2), .val (.int p3), .val (.int p4), .val (.int p5), .unset, .unset, .unset, .unset, .unset, .unset, .unset, .unset, .unset, .unset] [(.int (5 : Int32)), (.int (p0 &&& (7 : Int32)))])) _
    refine iremM X0 hx rfl (hb hby at_5) rfl (by decide) ?_
    show Steps p.tables e below (s₁.setTop (mkF m 6 #[.val (.int p0), .val (.int p1), .val (.int p2), .val (.int p3), .val (.int p4), .val (.int p5), .unset, .unset, .unset, .unset, .unset, .unset, .unset, .unset, .unset, .unset] [(.int ((p0 &&& (7 : Int32)) % (5 : Int32)))])) _
    refine XS.istore X0.here hx rfl (hb hby at_6) rfl (l' := #[.val (.int p0), .val (.int p1), .val (.int p2), .val (.int p3), .val (.int p4), .val (.int p5), .val (.int ((p0 &&& (7 : Int32)) % (5 : Int32))), .unset, .unset, .unset, .unset, .unset, .unset, .unset, .unset, .unset]) rfl ?_
    show Steps p.tables e below (s₁.setTop (mkF m 8 #[.val (.int p0), .val (.int p1), .val (.int p2), .val (.int p3), .val (.int p4), .val (.int p5), .val (.int ((p0 &&& (7 : Int32)) % (5 : Int32))), .unset, .unset, .unset, .unset, .unset, .unset, .unset, .unset, .unset] [])) _
    exact k
  refine own_go k1 ?_
  clear k1
  obtain ⟨nI, h_nI⟩ : ∃ z, z = ((p0 &&& (7 : Int32)) % (5 : Int32)) := ⟨_, rfl⟩
  rw [← h_nI]
  obtain ⟨nN, hnN, hN4⟩ : ∃ k : Nat, nI = Int32.ofNat k ∧ k ≤ 4 := by rw [h_nI]; exact own_mod5 _
  clear h_nI
  subst hnN
  have k2 : ∀ t, Steps p.tables e below (s₁.setTop (mkF m 10 #[.val (.int p0), .val (.int p1), .val (.int p2), .val (.int p3), .val (.int p4), .val (.int p5), .val (.int (Int32.ofNat nN)), .unset, .unset, .unset, .unset, .unset, .unset, .unset, .unset, .unset] [(.int (Int32.ofNat nN))])) t → Steps p.tables e below (s₁.setTop (mkF m 8 #[.val (.int p0), .val (.int p1), .val (.int p2), .val (.int p3), .val (.int p4), .val (.int p5), .val (.int (Int32.ofNat nN)), .unset, .unset, .unset, .unset, .unset, .unset, .unset, .unset, .unset] [])) t := fun t k => by
    refine XS.iload X0.here hx rfl (hb hby at_8) rfl ?_
    show Steps p.tables e below (s₁.setTop (mkF m 10 #[.val (.int p0), .val (.int p1), .val (.int p2), .val (.int p3), .val (.int p4), .val (.int p5), .val (.int (Int32.ofNat nN)), .unset, .unset, .unset, .unset, .unset, .unset, .unset, .unset, .unset] [(.int (Int32.ofNat nN))])) _
    exact k
  refine own_go k2 ?_
  clear k2
  obtain ⟨v3_0, hv3_0⟩ : ∃ z, z = (if (Int32.ofNat nN) = (0 : Int32) then (0 : Int32) else ((p1 &&& (7 : Int32)) % (5 : Int32))) := ⟨_, rfl⟩
  have k3 : ∀ t, Steps p.tables e below (s₁.setTop (mkF m 23 #[.val (.int p0), .val (.int p1), .val (.int p2), .val (.int p3), .val (.int p4), .val (.int p5), .val (.int (Int32.ofNat nN)), .unset, .unset, .unset, .unset, .unset, .unset, .unset, .unset, .unset] [(.int v3_0)])) t → Steps p.tables e below (s₁.setTop (mkF m 10 #[.val (.int p0), .val (.int p1), .val (.int p2), .val (.int p3), .val (.int p4), .val (.int p5), .val (.int (Int32.ofNat nN)), .unset, .unset, .unset, .unset, .unset, .unset, .unset, .unset, .unset] [(.int (Int32.ofNat nN))])) t := fun t k => by
    by_cases hc10_3_0 : (Int32.ofNat nN) = (0 : Int32)
    · skip
      refine XS.ifNo X0.here hx rfl (hb hby at_10) rfl ((if0 _ _).trans (teq hc10_3_0).2) ?_
      show Steps p.tables e below (s₁.setTop (mkF m 13 #[.val (.int p0), .val (.int p1), .val (.int p2), .val (.int p3), .val (.int p4), .val (.int p5), .val (.int (Int32.ofNat nN)), .unset, .unset, .unset, .unset, .unset, .unset, .unset, .unset, .unset] [])) _
      refine XS.iconst X0.here hx rfl (hb hby at_13) ?_
      show Steps p.tables e below (s₁.setTop (mkF m 14 #[.val (.int p0), .val (.int p1), .val (.int p2), .val (.int p3), .val (.int p4), .val (.int p5), .val (.int (Int32.ofNat nN)), .unset, .unset, .unset, .unset, .unset, .unset, .unset, .unset, .unset] [(.int (0 : Int32))])) _
      refine XS.goto X0.here hx rfl (pc0 := 14) (pc' := 23) rfl (hb hby at_14) (by decide) (by decide) ?_
      show Steps p.tables e below (s₁.setTop (mkF m 23 #[.val (.int p0), .val (.int p1), .val (.int p2), .val (.int p3), .val (.int p4), .val (.int p5), .val (.int (Int32.ofNat nN)), .unset, .unset, .unset, .unset, .unset, .unset, .unset, .unset, .unset] [(.int (0 : Int32))])) _
      have q_v3_0 := hv3_0
      first | rw [if_pos hc10_3_0] at q_v3_0 | skip
      subst q_v3_0
      exact k
    · skip
      refine XS.ifYes X0.here hx rfl (pc0 := 10) (pc' := 17) rfl (hb hby at_10) rfl ((if0 _ _).trans (feq hc10_3_0).2) (by decide) (by decide) ?_
      show Steps p.tables e below (s₁.setTop (mkF m 17 #[.val (.int p0), .val (.int p1), .val (.int p2), .val (.int p3), .val (.int p4), .val (.int p5), .val (.int (Int32.ofNat nN)), .unset, .unset, .unset, .unset, .unset, .unset, .unset, .unset, .unset] [])) _
      refine XS.iloadN X0.here hx rfl (hb hby at_17) rfl ?_
      show Steps p.tables e below (s₁.setTop (mkF m 18 #[.val (.int p0), .val (.int p1), .val (.int p2), .val (.int p3), .val (.int p4), .val (.int p5), .val (.int (Int32.ofNat nN)), .unset, .unset, .unset, .unset, .unset, .unset, .unset, .unset, .unset] [(.int p1)])) _
      refine XS.bipush X0.here hx rfl (hb hby at_18) ?_
      show Steps p.tables e below (s₁.setTop (mkF m 20 #[.val (.int p0), .val (.int p1), .val (.int p2), .val (.int p3), .val (.int p4), .val (.int p5), .val (.int (Int32.ofNat nN)), .unset, .unset, .unset, .unset, .unset, .unset, .unset, .unset, .unset] [(.int (7 : Int32)), (.int p1)])) _
      refine XS.iand X0.here hx rfl (hb hby at_20) rfl ?_
      show Steps p.tables e below (s₁.setTop (mkF m 21 #[.val (.int p0), .val (.int p1), .val (.int p2), .val (.int p3), .val (.int p4), .val (.int p5), .val (.int (Int32.ofNat nN)), .unset, .unset, .unset, .unset, .unset, .unset, .unset, .unset, .unset] [(.int (p1 &&& (7 : Int32)))])) _
      refine XS.iconst X0.here hx rfl (hb hby at_21) ?_
      show Steps p.tables e below (s₁.setTop (mkF m 22 #[.val (.int p0), .val (.int p1), .val (.int p2), .val (.int p3), .val (.int p4), .val (.int p5), .val (.int (Int32.ofNat nN)), .unset, .unset, .unset, .unset, .unset, .unset, .unset, .unset, .unset] [(.int (5 : Int32)), (.int (p1 &&& (7 : Int32)))])) _
      refine iremM X0 hx rfl (hb hby at_22) rfl (by decide) ?_
      show Steps p.tables e below (s₁.setTop (mkF m 23 #[.val (.int p0), .val (.int p1), .val (.int p2), .val (.int p3), .val (.int p4), .val (.int p5), .val (.int (Int32.ofNat nN)), .unset, .unset, .unset, .unset, .unset, .unset, .unset, .unset, .unset] [(.int ((p1 &&& (7 : Int32)) % (5 : Int32)))])) _
      have q_v3_0 := hv3_0
      first | rw [if_neg hc10_3_0] at q_v3_0 | skip
      subst q_v3_0
      exact k
  refine own_go k3 ?_
  clear k3
  have k4 : ∀ t, Steps p.tables e below (s₁.setTop (mkF m 25 #[.val (.int p0), .val (.int p1), .val (.int p2), .val (.int p3), .val (.int p4), .val (.int p5), .val (.int (Int32.ofNat nN)), .val (.int v3_0), .unset, .unset, .unset, .unset, .unset, .unset, .unset, .unset] [])) t → Steps p.tables e below (s₁.setTop (mkF m 23 #[.val (.int p0), .val (.int p1), .val (.int p2), .val (.int p3), .val (.int p4), .val (.int p5), .val (.int (Int32.ofNat nN)), .unset, .unset, .unset, .unset, .unset, .unset, .unset, .unset, .unset] [(.int v3_0)])) t := fun t k => by
    refine XS.istore X0.here hx rfl (hb hby at_23) rfl (l' := #[.val (.int p0), .val (.int p1), .val (.int p2), .val (.int p3), .val (.int p4), .val (.int p5), .val (.int (Int32.ofNat nN)), .val (.int v3_0), .unset, .unset, .unset, .unset, .unset, .unset, .unset, .unset]) rfl ?_
    show Steps p.tables e below (s₁.setTop (mkF m 25 #[.val (.int p0), .val (.int p1), .val (.int p2), .val (.int p3), .val (.int p4), .val (.int p5), .val (.int (Int32.ofNat nN)), .val (.int v3_0), .unset, .unset, .unset, .unset, .unset, .unset, .unset, .unset] [])) _
    exact k
  refine own_go k4 ?_
  clear k4
  obtain ⟨cN, hcN, hc4, hc0⟩ : ∃ k : Nat, v3_0 = Int32.ofNat k ∧ k ≤ 4 ∧ (nN = 0 → k = 0) := by
    obtain ⟨k5, e5, l5⟩ := own_mod5 p1
    by_cases q0 : (Int32.ofNat nN) = (0 : Int32)
    · rw [if_pos q0] at hv3_0; exact ⟨0, hv3_0, by omega, fun _ => rfl⟩
    · rw [if_neg q0, e5] at hv3_0; exact ⟨k5, hv3_0, l5, fun q => absurd (by rw [q]; rfl) q0⟩
  clear hv3_0
  subst hcN
  have k5 : ∀ t, Steps p.tables e below (s₁.setTop (mkF m 27 #[.val (.int p0), .val (.int p1), .val (.int p2), .val (.int p3), .val (.int p4), .val (.int p5), .val (.int (Int32.ofNat nN)), .val (.int (Int32.ofNat cN)), .unset, .unset, .unset, .unset, .unset, .unset, .unset, .unset] [(.int (Int32.ofNat nN))])) t → Steps p.tables e below (s₁.setTop (mkF m 25 #[.val (.int p0), .val (.int p1), .val (.int p2), .val (.int p3), .val (.int p4), .val (.int p5), .val (.int (Int32.ofNat nN)), .val (.int (Int32.ofNat cN)), .unset, .unset, .unset, .unset, .unset, .unset, .unset, .unset] [])) t := fun t k => by
    refine XS.iload X0.here hx rfl (hb hby at_25) rfl ?_
    show Steps p.tables e below (s₁.setTop (mkF m 27 #[.val (.int p0), .val (.int p1), .val (.int p2), .val (.int p3), .val (.int p4), .val (.int p5), .val (.int (Int32.ofNat nN)), .val (.int (Int32.ofNat cN)), .unset, .unset, .unset, .unset, .unset, .unset, .unset, .unset] [(.int (Int32.ofNat nN))])) _
    exact k
  refine own_go k5 ?_
  clear k5
  obtain ⟨v6_0, hv6_0⟩ : ∃ z, z = (if (Int32.ofNat nN) = (0 : Int32) then (1 : Int32) else (Int32.ofNat nN)) := ⟨_, rfl⟩
  have k6 : ∀ t, Steps p.tables e below (s₁.setTop (mkF m 36 #[.val (.int p0), .val (.int p1), .val (.int p2), .val (.int p3), .val (.int p4), .val (.int p5), .val (.int (Int32.ofNat nN)), .val (.int (Int32.ofNat cN)), .unset, .unset, .unset, .unset, .unset, .unset, .unset, .unset] [(.int v6_0)])) t → Steps p.tables e below (s₁.setTop (mkF m 27 #[.val (.int p0), .val (.int p1), .val (.int p2), .val (.int p3), .val (.int p4), .val (.int p5), .val (.int (Int32.ofNat nN)), .val (.int (Int32.ofNat cN)), .unset, .unset, .unset, .unset, .unset, .unset, .unset, .unset] [(.int (Int32.ofNat nN))])) t := fun t k => by
    by_cases hc27_6_0 : (Int32.ofNat nN) = (0 : Int32)
    · skip
      refine XS.ifNo X0.here hx rfl (hb hby at_27) rfl ((if0 _ _).trans (teq hc27_6_0).2) ?_
      show Steps p.tables e below (s₁.setTop (mkF m 30 #[.val (.int p0), .val (.int p1), .val (.int p2), .val (.int p3), .val (.int p4), .val (.int p5), .val (.int (Int32.ofNat nN)), .val (.int (Int32.ofNat cN)), .unset, .unset, .unset, .unset, .unset, .unset, .unset, .unset] [])) _
      refine XS.iconst X0.here hx rfl (hb hby at_30) ?_
      show Steps p.tables e below (s₁.setTop (mkF m 31 #[.val (.int p0), .val (.int p1), .val (.int p2), .val (.int p3), .val (.int p4), .val (.int p5), .val (.int (Int32.ofNat nN)), .val (.int (Int32.ofNat cN)), .unset, .unset, .unset, .unset, .unset, .unset, .unset, .unset] [(.int (1 : Int32))])) _
      refine XS.goto X0.here hx rfl (pc0 := 31) (pc' := 36) rfl (hb hby at_31) (by decide) (by decide) ?_
      show Steps p.tables e below (s₁.setTop (mkF m 36 #[.val (.int p0), .val (.int p1), .val (.int p2), .val (.int p3), .val (.int p4), .val (.int p5), .val (.int (Int32.ofNat nN)), .val (.int (Int32.ofNat cN)), .unset, .unset, .unset, .unset, .unset, .unset, .unset, .unset] [(.int (1 : Int32))])) _
      have q_v6_0 := hv6_0
      first | rw [if_pos hc27_6_0] at q_v6_0 | skip
      subst q_v6_0
      exact k
    · skip
      refine XS.ifYes X0.here hx rfl (pc0 := 27) (pc' := 34) rfl (hb hby at_27) rfl ((if0 _ _).trans (feq hc27_6_0).2) (by decide) (by decide) ?_
      show Steps p.tables e below (s₁.setTop (mkF m 34 #[.val (.int p0), .val (.int p1), .val (.int p2), .val (.int p3), .val (.int p4), .val (.int p5), .val (.int (Int32.ofNat nN)), .val (.int (Int32.ofNat cN)), .unset, .unset, .unset, .unset, .unset, .unset, .unset, .unset] [])) _
      refine XS.iload X0.here hx rfl (hb hby at_34) rfl ?_
      show Steps p.tables e below (s₁.setTop (mkF m 36 #[.val (.int p0), .val (.int p1), .val (.int p2), .val (.int p3), .val (.int p4), .val (.int p5), .val (.int (Int32.ofNat nN)), .val (.int (Int32.ofNat cN)), .unset, .unset, .unset, .unset, .unset, .unset, .unset, .unset] [(.int (Int32.ofNat nN))])) _
      have q_v6_0 := hv6_0
      first | rw [if_neg hc27_6_0] at q_v6_0 | skip
      subst q_v6_0
      exact k
  refine own_go k6 ?_
  clear k6
  have k7 : ∀ t, Steps p.tables e below (s₁.setTop (mkF m 38 #[.val (.int p0), .val (.int p1), .val (.int p2), .val (.int p3), .val (.int p4), .val (.int p5), .val (.int (Int32.ofNat nN)), .val (.int (Int32.ofNat cN)), .val (.int v6_0), .unset, .unset, .unset, .unset, .unset, .unset, .unset] [])) t → Steps p.tables e below (s₁.setTop (mkF m 36 #[.val (.int p0), .val (.int p1), .val (.int p2), .val (.int p3), .val (.int p4), .val (.int p5), .val (.int (Int32.ofNat nN)), .val (.int (Int32.ofNat cN)), .unset, .unset, .unset, .unset, .unset, .unset, .unset, .unset] [(.int v6_0)])) t := fun t k => by
    refine XS.istore X0.here hx rfl (hb hby at_36) rfl (l' := #[.val (.int p0), .val (.int p1), .val (.int p2), .val (.int p3), .val (.int p4), .val (.int p5), .val (.int (Int32.ofNat nN)), .val (.int (Int32.ofNat cN)), .val (.int v6_0), .unset, .unset, .unset, .unset, .unset, .unset, .unset]) rfl ?_
    show Steps p.tables e below (s₁.setTop (mkF m 38 #[.val (.int p0), .val (.int p1), .val (.int p2), .val (.int p3), .val (.int p4), .val (.int p5), .val (.int (Int32.ofNat nN)), .val (.int (Int32.ofNat cN)), .val (.int v6_0), .unset, .unset, .unset, .unset, .unset, .unset, .unset] [])) _
    exact k
  refine own_go k7 ?_
  clear k7
  obtain ⟨mN, hmN, hm1, hm4, hmn⟩ : ∃ k : Nat, v6_0 = Int32.ofNat k ∧ 1 ≤ k ∧ k ≤ 4 ∧ (nN ≠ 0 → k = nN) := by
    by_cases q0 : (Int32.ofNat nN) = (0 : Int32)
    · rw [if_pos q0] at hv6_0; refine ⟨1, hv6_0, by omega, by omega, fun q => absurd (Int32.toInt_inj.mpr q0) ?_⟩
      rw [own_ti (by omega)]; show ¬ (nN : Int) = 0; omega
    · rw [if_neg q0] at hv6_0; refine ⟨nN, hv6_0, Nat.pos_of_ne_zero fun q => q0 (by rw [q]; rfl), hN4, fun _ => rfl⟩
  clear hv6_0
  subst hmN
  have k8 : ∀ t, Steps p.tables e below (s₁.setTop (mkF m 76 #[.val (.int p0), .val (.int p1), .val (.int p2), .val (.int p3), .val (.int p4), .val (.int p5), .val (.int (Int32.ofNat nN)), .val (.int (Int32.ofNat cN)), .val (.int (Int32.ofNat mN)), .val (.int ((p2 &&& (2147483647 : Int32)) % (Int32.ofNat mN))), .val (.int ((p3 &&& (2147483647 : Int32)) % (Int32.ofNat mN))), .val (.int ((p4 &&& (2147483647 : Int32)) % (Int32.ofNat mN))), .val (.int ((p5 &&& (2147483647 : Int32)) % (Int32.ofNat mN))), .unset, .unset, .unset] [])) t → Steps p.tables e below (s₁.setTop (mkF m 38 #[.val (.int p0), .val (.int p1), .val (.int p2), .val (.int p3), .val (.int p4), .val (.int p5), .val (.int (Int32.ofNat nN)), .val (.int (Int32.ofNat cN)), .val (.int (Int32.ofNat mN)), .unset, .unset, .unset, .unset, .unset, .unset, .unset] [])) t := fun t k => by
    refine XS.iloadN X0.here hx rfl (hb hby at_38) rfl ?_
    show Steps p.tables e below (s₁.setTop (mkF m 39 #[.val (.int p0), .val (.int p1), .val (.int p2), .val (.int p3), .val (.int p4), .val (.int p5), .val (.int (Int32.ofNat nN)), .val (.int (Int32.ofNat cN)), .val (.int (Int32.ofNat mN)), .unset, .unset, .unset, .unset, .unset, .unset, .unset] [(.int p2)])) _
    refine X0.ldcInt hx hown (mvT hZ (hw _ (List.mem_of_getElem? (i := 0) rfl))) (g := (mkF m 39 #[.val (.int p0), .val (.int p1), .val (.int p2), .val (.int p3), .val (.int p4), .val (.int p5), .val (.int (Int32.ofNat nN)), .val (.int (Int32.ofNat cN)), .val (.int (Int32.ofNat mN)), .unset, .unset, .unset, .unset, .unset, .unset, .unset] [(.int p2)])) rfl (hb hby at_39) _ ?_
    show Steps p.tables e below (s₁.setTop (mkF m 41 #[.val (.int p0), .val (.int p1), .val (.int p2), .val (.int p3), .val (.int p4), .val (.int p5), .val (.int (Int32.ofNat nN)), .val (.int (Int32.ofNat cN)), .val (.int (Int32.ofNat mN)), .unset, .unset, .unset, .unset, .unset, .unset, .unset] [(.int (2147483647 : Int32)), (.int p2)])) _
    refine XS.iand X0.here hx rfl (hb hby at_41) rfl ?_
    show Steps p.tables e below (s₁.setTop (mkF m 42 #[.val (.int p0), .val (.int p1), .val (.int p2), .val (.int p3), .val (.int p4), .val (.int p5), .val (.int (Int32.ofNat nN)), .val (.int (Int32.ofNat cN)), .val (.int (Int32.ofNat mN)), .unset, .unset, .unset, .unset, .unset, .unset, .unset] [(.int (p2 &&& (2147483647 : Int32)))])) _
    refine XS.iload X0.here hx rfl (hb hby at_42) rfl ?_
    show Steps p.tables e below (s₁.setTop (mkF m 44 #[.val (.int p0), .val (.int p1), .val (.int p2), .val (.int p3), .val (.int p4), .val (.int p5), .val (.int (Int32.ofNat nN)), .val (.int (Int32.ofNat cN)), .val (.int (Int32.ofNat mN)), .unset, .unset, .unset, .unset, .unset, .unset, .unset] [(.int (Int32.ofNat mN)), (.int (p2 &&& (2147483647 : Int32)))])) _
    refine iremM X0 hx rfl (hb hby at_44) rfl (own_ne0 hm1 hm4) ?_
    show Steps p.tables e below (s₁.setTop (mkF m 45 #[.val (.int p0), .val (.int p1), .val (.int p2), .val (.int p3), .val (.int p4), .val (.int p5), .val (.int (Int32.ofNat nN)), .val (.int (Int32.ofNat cN)), .val (.int (Int32.ofNat mN)), .unset, .unset, .unset, .unset, .unset, .unset, .unset] [(.int ((p2 &&& (2147483647 : Int32)) % (Int32.ofNat mN)))])) _
    refine XS.istore X0.here hx rfl (hb hby at_45) rfl (l' := #[.val (.int p0), .val (.int p1), .val (.int p2), .val (.int p3), .val (.int p4), .val (.int p5), .val (.int (Int32.ofNat nN)), .val (.int (Int32.ofNat cN)), .val (.int (Int32.ofNat mN)), .val (.int ((p2 &&& (2147483647 : Int32)) % (Int32.ofNat mN))), .unset, .unset, .unset, .unset, .unset, .unset]) rfl ?_
    show Steps p.tables e below (s₁.setTop (mkF m 47 #[.val (.int p0), .val (.int p1), .val (.int p2), .val (.int p3), .val (.int p4), .val (.int p5), .val (.int (Int32.ofNat nN)), .val (.int (Int32.ofNat cN)), .val (.int (Int32.ofNat mN)), .val (.int ((p2 &&& (2147483647 : Int32)) % (Int32.ofNat mN))), .unset, .unset, .unset, .unset, .unset, .unset] [])) _
    refine XS.iloadN X0.here hx rfl (hb hby at_47) rfl ?_
    show Steps p.tables e below (s₁.setTop (mkF m 48 #[.val (.int p0), .val (.int p1), .val (.int p2), .val (.int p3), .val (.int p4), .val (.int p5), .val (.int (Int32.ofNat nN)), .val (.int (Int32.ofNat cN)), .val (.int (Int32.ofNat mN)), .val (.int ((p2 &&& (2147483647 : Int32)) % (Int32.ofNat mN))), .unset, .unset, .unset, .unset, .unset, .unset] [(.int p3)])) _
    refine X0.ldcInt hx hown (mvT hZ (hw _ (List.mem_of_getElem? (i := 0) rfl))) (g := (mkF m 48 #[.val (.int p0), .val (.int p1), .val (.int p2), .val (.int p3), .val (.int p4), .val (.int p5), .val (.int (Int32.ofNat nN)), .val (.int (Int32.ofNat cN)), .val (.int (Int32.ofNat mN)), .val (.int ((p2 &&& (2147483647 : Int32)) % (Int32.ofNat mN))), .unset, .unset, .unset, .unset, .unset, .unset] [(.int p3)])) rfl (hb hby at_48) _ ?_
    show Steps p.tables e below (s₁.setTop (mkF m 50 #[.val (.int p0), .val (.int p1), .val (.int p2), .val (.int p3), .val (.int p4), .val (.int p5), .val (.int (Int32.ofNat nN)), .val (.int (Int32.ofNat cN)), .val (.int (Int32.ofNat mN)), .val (.int ((p2 &&& (2147483647 : Int32)) % (Int32.ofNat mN))), .unset, .unset, .unset, .unset, .unset, .unset] [(.int (2147483647 : Int32)), (.int p3)])) _
    refine XS.iand X0.here hx rfl (hb hby at_50) rfl ?_
    show Steps p.tables e below (s₁.setTop (mkF m 51 #[.val (.int p0), .val (.int p1), .val (.int p2), .val (.int p3), .val (.int p4), .val (.int p5), .val (.int (Int32.ofNat nN)), .val (.int (Int32.ofNat cN)), .val (.int (Int32.ofNat mN)), .val (.int ((p2 &&& (2147483647 : Int32)) % (Int32.ofNat mN))), .unset, .unset, .unset, .unset, .unset, .unset] [(.int (p3 &&& (2147483647 : Int32)))])) _
    refine XS.iload X0.here hx rfl (hb hby at_51) rfl ?_
    show Steps p.tables e below (s₁.setTop (mkF m 53 #[.val (.int p0), .val (.int p1), .val (.int p2), .val (.int p3), .val (.int p4), .val (.int p5), .val (.int (Int32.ofNat nN)), .val (.int (Int32.ofNat cN)), .val (.int (Int32.ofNat mN)), .val (.int ((p2 &&& (2147483647 : Int32)) % (Int32.ofNat mN))), .unset, .unset, .unset, .unset, .unset, .unset] [(.int (Int32.ofNat mN)), (.int (p3 &&& (2147483647 : Int32)))])) _
    refine iremM X0 hx rfl (hb hby at_53) rfl (own_ne0 hm1 hm4) ?_
    show Steps p.tables e below (s₁.setTop (mkF m 54 #[.val (.int p0), .val (.int p1), .val (.int p2), .val (.int p3), .val (.int p4), .val (.int p5), .val (.int (Int32.ofNat nN)), .val (.int (Int32.ofNat cN)), .val (.int (Int32.ofNat mN)), .val (.int ((p2 &&& (2147483647 : Int32)) % (Int32.ofNat mN))), .unset, .unset, .unset, .unset, .unset, .unset] [(.int ((p3 &&& (2147483647 : Int32)) % (Int32.ofNat mN)))])) _
    refine XS.istore X0.here hx rfl (hb hby at_54) rfl (l' := #[.val (.int p0), .val (.int p1), .val (.int p2), .val (.int p3), .val (.int p4), .val (.int p5), .val (.int (Int32.ofNat nN)), .val (.int (Int32.ofNat cN)), .val (.int (Int32.ofNat mN)), .val (.int ((p2 &&& (2147483647 : Int32)) % (Int32.ofNat mN))), .val (.int ((p3 &&& (2147483647 : Int32)) % (Int32.ofNat mN))), .unset, .unset, .unset, .unset, .unset]) rfl ?_
    show Steps p.tables e below (s₁.setTop (mkF m 56 #[.val (.int p0), .val (.int p1), .val (.int p2), .val (.int p3), .val (.int p4), .val (.int p5), .val (.int (Int32.ofNat nN)), .val (.int (Int32.ofNat cN)), .val (.int (Int32.ofNat mN)), .val (.int ((p2 &&& (2147483647 : Int32)) % (Int32.ofNat mN))), .val (.int ((p3 &&& (2147483647 : Int32)) % (Int32.ofNat mN))), .unset, .unset, .unset, .unset, .unset] [])) _
    refine XS.iload X0.here hx rfl (hb hby at_56) rfl ?_
    show Steps p.tables e below (s₁.setTop (mkF m 58 #[.val (.int p0), .val (.int p1), .val (.int p2), .val (.int p3), .val (.int p4), .val (.int p5), .val (.int (Int32.ofNat nN)), .val (.int (Int32.ofNat cN)), .val (.int (Int32.ofNat mN)), .val (.int ((p2 &&& (2147483647 : Int32)) % (Int32.ofNat mN))), .val (.int ((p3 &&& (2147483647 : Int32)) % (Int32.ofNat mN))), .unset, .unset, .unset, .unset, .unset] [(.int p4)])) _
    refine X0.ldcInt hx hown (mvT hZ (hw _ (List.mem_of_getElem? (i := 0) rfl))) (g := (mkF m 58 #[.val (.int p0), .val (.int p1), .val (.int p2), .val (.int p3), .val (.int p4), .val (.int p5), .val (.int (Int32.ofNat nN)), .val (.int (Int32.ofNat cN)), .val (.int (Int32.ofNat mN)), .val (.int ((p2 &&& (2147483647 : Int32)) % (Int32.ofNat mN))), .val (.int ((p3 &&& (2147483647 : Int32)) % (Int32.ofNat mN))), .unset, .unset, .unset, .unset, .unset] [(.int p4)])) rfl (hb hby at_58) _ ?_
    show Steps p.tables e below (s₁.setTop (mkF m 60 #[.val (.int p0), .val (.int p1), .val (.int p2), .val (.int p3), .val (.int p4), .val (.int p5), .val (.int (Int32.ofNat nN)), .val (.int (Int32.ofNat cN)), .val (.int (Int32.ofNat mN)), .val (.int ((p2 &&& (2147483647 : Int32)) % (Int32.ofNat mN))), .val (.int ((p3 &&& (2147483647 : Int32)) % (Int32.ofNat mN))), .unset, .unset, .unset, .unset, .unset] [(.int (2147483647 : Int32)), (.int p4)])) _
    refine XS.iand X0.here hx rfl (hb hby at_60) rfl ?_
    show Steps p.tables e below (s₁.setTop (mkF m 61 #[.val (.int p0), .val (.int p1), .val (.int p2), .val (.int p3), .val (.int p4), .val (.int p5), .val (.int (Int32.ofNat nN)), .val (.int (Int32.ofNat cN)), .val (.int (Int32.ofNat mN)), .val (.int ((p2 &&& (2147483647 : Int32)) % (Int32.ofNat mN))), .val (.int ((p3 &&& (2147483647 : Int32)) % (Int32.ofNat mN))), .unset, .unset, .unset, .unset, .unset] [(.int (p4 &&& (2147483647 : Int32)))])) _
    refine XS.iload X0.here hx rfl (hb hby at_61) rfl ?_
    show Steps p.tables e below (s₁.setTop (mkF m 63 #[.val (.int p0), .val (.int p1), .val (.int p2), .val (.int p3), .val (.int p4), .val (.int p5), .val (.int (Int32.ofNat nN)), .val (.int (Int32.ofNat cN)), .val (.int (Int32.ofNat mN)), .val (.int ((p2 &&& (2147483647 : Int32)) % (Int32.ofNat mN))), .val (.int ((p3 &&& (2147483647 : Int32)) % (Int32.ofNat mN))), .unset, .unset, .unset, .unset, .unset] [(.int (Int32.ofNat mN)), (.int (p4 &&& (2147483647 : Int32)))])) _
    refine iremM X0 hx rfl (hb hby at_63) rfl (own_ne0 hm1 hm4) ?_
    show Steps p.tables e below (s₁.setTop (mkF m 64 #[.val (.int p0), .val (.int p1), .val (.int p2), .val (.int p3), .val (.int p4), .val (.int p5), .val (.int (Int32.ofNat nN)), .val (.int (Int32.ofNat cN)), .val (.int (Int32.ofNat mN)), .val (.int ((p2 &&& (2147483647 : Int32)) % (Int32.ofNat mN))), .val (.int ((p3 &&& (2147483647 : Int32)) % (Int32.ofNat mN))), .unset, .unset, .unset, .unset, .unset] [(.int ((p4 &&& (2147483647 : Int32)) % (Int32.ofNat mN)))])) _
    refine XS.istore X0.here hx rfl (hb hby at_64) rfl (l' := #[.val (.int p0), .val (.int p1), .val (.int p2), .val (.int p3), .val (.int p4), .val (.int p5), .val (.int (Int32.ofNat nN)), .val (.int (Int32.ofNat cN)), .val (.int (Int32.ofNat mN)), .val (.int ((p2 &&& (2147483647 : Int32)) % (Int32.ofNat mN))), .val (.int ((p3 &&& (2147483647 : Int32)) % (Int32.ofNat mN))), .val (.int ((p4 &&& (2147483647 : Int32)) % (Int32.ofNat mN))), .unset, .unset, .unset, .unset]) rfl ?_
    show Steps p.tables e below (s₁.setTop (mkF m 66 #[.val (.int p0), .val (.int p1), .val (.int p2), .val (.int p3), .val (.int p4), .val (.int p5), .val (.int (Int32.ofNat nN)), .val (.int (Int32.ofNat cN)), .val (.int (Int32.ofNat mN)), .val (.int ((p2 &&& (2147483647 : Int32)) % (Int32.ofNat mN))), .val (.int ((p3 &&& (2147483647 : Int32)) % (Int32.ofNat mN))), .val (.int ((p4 &&& (2147483647 : Int32)) % (Int32.ofNat mN))), .unset, .unset, .unset, .unset] [])) _
    refine XS.iload X0.here hx rfl (hb hby at_66) rfl ?_
    show Steps p.tables e below (s₁.setTop (mkF m 68 #[.val (.int p0), .val (.int p1), .val (.int p2), .val (.int p3), .val (.int p4), .val (.int p5), .val (.int (Int32.ofNat nN)), .val (.int (Int32.ofNat cN)), .val (.int (Int32.ofNat mN)), .val (.int ((p2 &&& (2147483647 : Int32)) % (Int32.ofNat mN))), .val (.int ((p3 &&& (2147483647 : Int32)) % (Int32.ofNat mN))), .val (.int ((p4 &&& (2147483647 : Int32)) % (Int32.ofNat mN))), .unset, .unset, .unset, .unset] [(.int p5)])) _
    refine X0.ldcInt hx hown (mvT hZ (hw _ (List.mem_of_getElem? (i := 0) rfl))) (g := (mkF m 68 #[.val (.int p0), .val (.int p1), .val (.int p2), .val (.int p3), .val (.int p4), .val (.int p5), .val (.int (Int32.ofNat nN)), .val (.int (Int32.ofNat cN)), .val (.int (Int32.ofNat mN)), .val (.int ((p2 &&& (2147483647 : Int32)) % (Int32.ofNat mN))), .val (.int ((p3 &&& (2147483647 : Int32)) % (Int32.ofNat mN))), .val (.int ((p4 &&& (2147483647 : Int32)) % (Int32.ofNat mN))), .unset, .unset, .unset, .unset] [(.int p5)])) rfl (hb hby at_68) _ ?_
    show Steps p.tables e below (s₁.setTop (mkF m 70 #[.val (.int p0), .val (.int p1), .val (.int p2), .val (.int p3), .val (.int p4), .val (.int p5), .val (.int (Int32.ofNat nN)), .val (.int (Int32.ofNat cN)), .val (.int (Int32.ofNat mN)), .val (.int ((p2 &&& (2147483647 : Int32)) % (Int32.ofNat mN))), .val (.int ((p3 &&& (2147483647 : Int32)) % (Int32.ofNat mN))), .val (.int ((p4 &&& (2147483647 : Int32)) % (Int32.ofNat mN))), .unset, .unset, .unset, .unset] [(.int (2147483647 : Int32)), (.int p5)])) _
    refine XS.iand X0.here hx rfl (hb hby at_70) rfl ?_
    show Steps p.tables e below (s₁.setTop (mkF m 71 #[.val (.int p0), .val (.int p1), .val (.int p2), .val (.int p3), .val (.int p4), .val (.int p5), .val (.int (Int32.ofNat nN)), .val (.int (Int32.ofNat cN)), .val (.int (Int32.ofNat mN)), .val (.int ((p2 &&& (2147483647 : Int32)) % (Int32.ofNat mN))), .val (.int ((p3 &&& (2147483647 : Int32)) % (Int32.ofNat mN))), .val (.int ((p4 &&& (2147483647 : Int32)) % (Int32.ofNat mN))), .unset, .unset, .unset, .unset] [(.int (p5 &&& (2147483647 : Int32)))])) _
    refine XS.iload X0.here hx rfl (hb hby at_71) rfl ?_
    show Steps p.tables e below (s₁.setTop (mkF m 73 #[.val (.int p0), .val (.int p1), .val (.int p2), .val (.int p3), .val (.int p4), .val (.int p5), .val (.int (Int32.ofNat nN)), .val (.int (Int32.ofNat cN)), .val (.int (Int32.ofNat mN)), .val (.int ((p2 &&& (2147483647 : Int32)) % (Int32.ofNat mN))), .val (.int ((p3 &&& (2147483647 : Int32)) % (Int32.ofNat mN))), .val (.int ((p4 &&& (2147483647 : Int32)) % (Int32.ofNat mN))), .unset, .unset, .unset, .unset] [(.int (Int32.ofNat mN)), (.int (p5 &&& (2147483647 : Int32)))])) _
    refine iremM X0 hx rfl (hb hby at_73) rfl (own_ne0 hm1 hm4) ?_
    show Steps p.tables e below (s₁.setTop (mkF m 74 #[.val (.int p0), .val (.int p1), .val (.int p2), .val (.int p3), .val (.int p4), .val (.int p5), .val (.int (Int32.ofNat nN)), .val (.int (Int32.ofNat cN)), .val (.int (Int32.ofNat mN)), .val (.int ((p2 &&& (2147483647 : Int32)) % (Int32.ofNat mN))), .val (.int ((p3 &&& (2147483647 : Int32)) % (Int32.ofNat mN))), .val (.int ((p4 &&& (2147483647 : Int32)) % (Int32.ofNat mN))), .unset, .unset, .unset, .unset] [(.int ((p5 &&& (2147483647 : Int32)) % (Int32.ofNat mN)))])) _
    refine XS.istore X0.here hx rfl (hb hby at_74) rfl (l' := #[.val (.int p0), .val (.int p1), .val (.int p2), .val (.int p3), .val (.int p4), .val (.int p5), .val (.int (Int32.ofNat nN)), .val (.int (Int32.ofNat cN)), .val (.int (Int32.ofNat mN)), .val (.int ((p2 &&& (2147483647 : Int32)) % (Int32.ofNat mN))), .val (.int ((p3 &&& (2147483647 : Int32)) % (Int32.ofNat mN))), .val (.int ((p4 &&& (2147483647 : Int32)) % (Int32.ofNat mN))), .val (.int ((p5 &&& (2147483647 : Int32)) % (Int32.ofNat mN))), .unset, .unset, .unset]) rfl ?_
    show Steps p.tables e below (s₁.setTop (mkF m 76 #[.val (.int p0), .val (.int p1), .val (.int p2), .val (.int p3), .val (.int p4), .val (.int p5), .val (.int (Int32.ofNat nN)), .val (.int (Int32.ofNat cN)), .val (.int (Int32.ofNat mN)), .val (.int ((p2 &&& (2147483647 : Int32)) % (Int32.ofNat mN))), .val (.int ((p3 &&& (2147483647 : Int32)) % (Int32.ofNat mN))), .val (.int ((p4 &&& (2147483647 : Int32)) % (Int32.ofNat mN))), .val (.int ((p5 &&& (2147483647 : Int32)) % (Int32.ofNat mN))), .unset, .unset, .unset] [])) _
    exact k
  refine own_go k8 ?_
  clear k8
  obtain ⟨xI0, h_xI0⟩ : ∃ z, z = ((p2 &&& (2147483647 : Int32)) % (Int32.ofNat mN)) := ⟨_, rfl⟩
  rw [← h_xI0]
  obtain ⟨x0, hx0, hl0⟩ : ∃ k : Nat, xI0 = Int32.ofNat k ∧ k < mN := by rw [h_xI0]; exact own_modm _ hm1 hm4
  clear h_xI0
  subst hx0
  obtain ⟨xI1, h_xI1⟩ : ∃ z, z = ((p3 &&& (2147483647 : Int32)) % (Int32.ofNat mN)) := ⟨_, rfl⟩
  rw [← h_xI1]
  obtain ⟨x1, hx1, hl1⟩ : ∃ k : Nat, xI1 = Int32.ofNat k ∧ k < mN := by rw [h_xI1]; exact own_modm _ hm1 hm4
  clear h_xI1
  subst hx1
  obtain ⟨xI2, h_xI2⟩ : ∃ z, z = ((p4 &&& (2147483647 : Int32)) % (Int32.ofNat mN)) := ⟨_, rfl⟩
  rw [← h_xI2]
  obtain ⟨x2, hx2, hl2⟩ : ∃ k : Nat, xI2 = Int32.ofNat k ∧ k < mN := by rw [h_xI2]; exact own_modm _ hm1 hm4
  clear h_xI2
  subst hx2
  obtain ⟨xI3, h_xI3⟩ : ∃ z, z = ((p5 &&& (2147483647 : Int32)) % (Int32.ofNat mN)) := ⟨_, rfl⟩
  rw [← h_xI3]
  obtain ⟨x3, hx3, hl3⟩ : ∃ k : Nat, xI3 = Int32.ofNat k ∧ k < mN := by rw [h_xI3]; exact own_modm _ hm1 hm4
  clear h_xI3
  subst hx3
  have hxx : ∀ t, t < cN → own_nn x0 x1 x2 x3 t < nN := fun t ht => by
    have q : nN ≠ 0 := fun z => by have := hc0 z; omega
    have e := hmn q
    unfold own_nn; split <;> (try split) <;> (try split) <;> omega
  have k9 : ∀ t, Steps p.tables e below (s₁.setTop (mkF m 77 #[.val (.int p0), .val (.int p1), .val (.int p2), .val (.int p3), .val (.int p4), .val (.int p5), .val (.int (Int32.ofNat nN)), .val (.int (Int32.ofNat cN)), .val (.int (Int32.ofNat mN)), .val (.int (Int32.ofNat x0)), .val (.int (Int32.ofNat x1)), .val (.int (Int32.ofNat x2)), .val (.int (Int32.ofNat x3)), .unset, .unset, .unset] [(.int (4 : Int32))])) t → Steps p.tables e below (s₁.setTop (mkF m 76 #[.val (.int p0), .val (.int p1), .val (.int p2), .val (.int p3), .val (.int p4), .val (.int p5), .val (.int (Int32.ofNat nN)), .val (.int (Int32.ofNat cN)), .val (.int (Int32.ofNat mN)), .val (.int (Int32.ofNat x0)), .val (.int (Int32.ofNat x1)), .val (.int (Int32.ofNat x2)), .val (.int (Int32.ofNat x3)), .unset, .unset, .unset] [])) t := fun t k => by
    refine XS.iconst X0.here hx rfl (hb hby at_76) ?_
    show Steps p.tables e below (s₁.setTop (mkF m 77 #[.val (.int p0), .val (.int p1), .val (.int p2), .val (.int p3), .val (.int p4), .val (.int p5), .val (.int (Int32.ofNat nN)), .val (.int (Int32.ofNat cN)), .val (.int (Int32.ofNat mN)), .val (.int (Int32.ofNat x0)), .val (.int (Int32.ofNat x1)), .val (.int (Int32.ofNat x2)), .val (.int (Int32.ofNat x3)), .unset, .unset, .unset] [(.int (4 : Int32))])) _
    exact k
  refine own_go k9 ?_
  clear k9
  obtain ⟨T10, h10, k10, X10, e10, E10, A10, st10⟩ := newP X0 hx hZ (hw _ (List.mem_of_getElem? (i := 1) rfl)) e0 (g := (mkF m 77 #[.val (.int p0), .val (.int p1), .val (.int p2), .val (.int p3), .val (.int p4), .val (.int p5), .val (.int (Int32.ofNat nN)), .val (.int (Int32.ofNat cN)), .val (.int (Int32.ofNat mN)), .val (.int (Int32.ofNat x0)), .val (.int (Int32.ofNat x1)), .val (.int (Int32.ofNat x2)), .val (.int (Int32.ofNat x3)), .unset, .unset, .unset] [(.int (4 : Int32))])) rfl (hb hby at_77) rfl (by decide) (cap := 4) (by decide) (by decide) (by decide) (by decide)
  obtain ⟨b10, g10⟩ : ∃ z, z = h0.size := ⟨_, rfl⟩
  rw [← g10] at A10 st10
  refine own_go st10 ?_
  have g_b10 : n0 ≤ b10 := Nat.le_trans Z0 (Nat.le_of_eq g10.symm)
  have Z10 : n0 ≤ h10.size := Nat.le_trans Z0 E10.1
  have V10 : Arv Z h10 b10 k10 .int (4 : Int32) [(.int (0 : Int32)), (.int (0 : Int32)), (.int (0 : Int32)), (.int (0 : Int32))] (.int (0 : Int32)) := (Arv.new A10 (by decide)).pad (pad_rep [] (.int (0 : Int32)) 4)
  have k11 : ∀ t, Steps p.tables e below (T10.setTop (mkF m 83 #[.val (.int p0), .val (.int p1), .val (.int p2), .val (.int p3), .val (.int p4), .val (.int p5), .val (.int (Int32.ofNat nN)), .val (.int (Int32.ofNat cN)), .val (.int (Int32.ofNat mN)), .val (.int (Int32.ofNat x0)), .val (.int (Int32.ofNat x1)), .val (.int (Int32.ofNat x2)), .val (.int (Int32.ofNat x3)), .unset, .unset, .unset] [(.int (Int32.ofNat x0)), (.int (0 : Int32)), (.ref b10), (.ref b10)])) t → Steps p.tables e below (T10.setTop (mkF m 79 #[.val (.int p0), .val (.int p1), .val (.int p2), .val (.int p3), .val (.int p4), .val (.int p5), .val (.int (Int32.ofNat nN)), .val (.int (Int32.ofNat cN)), .val (.int (Int32.ofNat mN)), .val (.int (Int32.ofNat x0)), .val (.int (Int32.ofNat x1)), .val (.int (Int32.ofNat x2)), .val (.int (Int32.ofNat x3)), .unset, .unset, .unset] [(.ref b10)])) t := fun t k => by
    refine XS.dup X10.here hx rfl (hb hby at_79) rfl rfl ?_
    show Steps p.tables e below (T10.setTop (mkF m 80 #[.val (.int p0), .val (.int p1), .val (.int p2), .val (.int p3), .val (.int p4), .val (.int p5), .val (.int (Int32.ofNat nN)), .val (.int (Int32.ofNat cN)), .val (.int (Int32.ofNat mN)), .val (.int (Int32.ofNat x0)), .val (.int (Int32.ofNat x1)), .val (.int (Int32.ofNat x2)), .val (.int (Int32.ofNat x3)), .unset, .unset, .unset] [(.ref b10), (.ref b10)])) _
    refine XS.iconst X10.here hx rfl (hb hby at_80) ?_
    show Steps p.tables e below (T10.setTop (mkF m 81 #[.val (.int p0), .val (.int p1), .val (.int p2), .val (.int p3), .val (.int p4), .val (.int p5), .val (.int (Int32.ofNat nN)), .val (.int (Int32.ofNat cN)), .val (.int (Int32.ofNat mN)), .val (.int (Int32.ofNat x0)), .val (.int (Int32.ofNat x1)), .val (.int (Int32.ofNat x2)), .val (.int (Int32.ofNat x3)), .unset, .unset, .unset] [(.int (0 : Int32)), (.ref b10), (.ref b10)])) _
    refine XS.iload X10.here hx rfl (hb hby at_81) rfl ?_
    show Steps p.tables e below (T10.setTop (mkF m 83 #[.val (.int p0), .val (.int p1), .val (.int p2), .val (.int p3), .val (.int p4), .val (.int p5), .val (.int (Int32.ofNat nN)), .val (.int (Int32.ofNat cN)), .val (.int (Int32.ofNat mN)), .val (.int (Int32.ofNat x0)), .val (.int (Int32.ofNat x1)), .val (.int (Int32.ofNat x2)), .val (.int (Int32.ofNat x3)), .unset, .unset, .unset] [(.int (Int32.ofNat x0)), (.int (0 : Int32)), (.ref b10), (.ref b10)])) _
    exact k
  refine own_go k11 ?_
  clear k11
  obtain ⟨cl12, Ar12, q12, S12, N12, H12, G12⟩ := id (V10)
  have hi12 : ¬ ((0 : Int32) < 0 ∨ cl12.slots.size ≤ ((0 : Int32)).toNatClampNeg) := inb_of S12 ⟨by decide, by decide⟩
  obtain ⟨T13, h13, X13, e13, W13, st13⟩ := stI X10 hx hZ e10 Ar12 (j := (0 : Int32)) hi12 (g := (mkF m 83 #[.val (.int p0), .val (.int p1), .val (.int p2), .val (.int p3), .val (.int p4), .val (.int p5), .val (.int (Int32.ofNat nN)), .val (.int (Int32.ofNat cN)), .val (.int (Int32.ofNat mN)), .val (.int (Int32.ofNat x0)), .val (.int (Int32.ofNat x1)), .val (.int (Int32.ofNat x2)), .val (.int (Int32.ofNat x3)), .unset, .unset, .unset] [(.int (Int32.ofNat x0)), (.int (0 : Int32)), (.ref b10), (.ref b10)])) rfl rfl (hb hby at_83)
  refine own_go st13 ?_
  have V13 : Arv Z h13 b10 k10 .int (4 : Int32) [(.int (Int32.ofNat x0)), (.int (0 : Int32)), (.int (0 : Int32)), (.int (0 : Int32))] (.int (0 : Int32)) := Arv.set Ar12 q12 S12 N12 H12 G12 rfl W13 0 rfl (Nat.le_of_ble_eq_true rfl)
  have f13_2 : Arv Z h13 b10 k10 .int (4 : Int32) [(.int (Int32.ofNat x0)), (.int (0 : Int32)), (.int (0 : Int32)), (.int (0 : Int32))] (.int (0 : Int32)) := V13
  have N13 := Fr.snoc X13 N0 g_b10
  have Z13 : n0 ≤ h13.size := Nat.le_trans Z10 (Keep.of_wr W13).1
  have k14 : ∀ t, Steps p.tables e below (T13.setTop (mkF m 88 #[.val (.int p0), .val (.int p1), .val (.int p2), .val (.int p3), .val (.int p4), .val (.int p5), .val (.int (Int32.ofNat nN)), .val (.int (Int32.ofNat cN)), .val (.int (Int32.ofNat mN)), .val (.int (Int32.ofNat x0)), .val (.int (Int32.ofNat x1)), .val (.int (Int32.ofNat x2)), .val (.int (Int32.ofNat x3)), .unset, .unset, .unset] [(.int (Int32.ofNat x1)), (.int (1 : Int32)), (.ref b10), (.ref b10)])) t → Steps p.tables e below (T13.setTop (mkF m 84 #[.val (.int p0), .val (.int p1), .val (.int p2), .val (.int p3), .val (.int p4), .val (.int p5), .val (.int (Int32.ofNat nN)), .val (.int (Int32.ofNat cN)), .val (.int (Int32.ofNat mN)), .val (.int (Int32.ofNat x0)), .val (.int (Int32.ofNat x1)), .val (.int (Int32.ofNat x2)), .val (.int (Int32.ofNat x3)), .unset, .unset, .unset] [(.ref b10)])) t := fun t k => by
    refine XS.dup X13.here hx rfl (hb hby at_84) rfl rfl ?_
    show Steps p.tables e below (T13.setTop (mkF m 85 #[.val (.int p0), .val (.int p1), .val (.int p2), .val (.int p3), .val (.int p4), .val (.int p5), .val (.int (Int32.ofNat nN)), .val (.int (Int32.ofNat cN)), .val (.int (Int32.ofNat mN)), .val (.int (Int32.ofNat x0)), .val (.int (Int32.ofNat x1)), .val (.int (Int32.ofNat x2)), .val (.int (Int32.ofNat x3)), .unset, .unset, .unset] [(.ref b10), (.ref b10)])) _
    refine XS.iconst X13.here hx rfl (hb hby at_85) ?_
    show Steps p.tables e below (T13.setTop (mkF m 86 #[.val (.int p0), .val (.int p1), .val (.int p2), .val (.int p3), .val (.int p4), .val (.int p5), .val (.int (Int32.ofNat nN)), .val (.int (Int32.ofNat cN)), .val (.int (Int32.ofNat mN)), .val (.int (Int32.ofNat x0)), .val (.int (Int32.ofNat x1)), .val (.int (Int32.ofNat x2)), .val (.int (Int32.ofNat x3)), .unset, .unset, .unset] [(.int (1 : Int32)), (.ref b10), (.ref b10)])) _
    refine XS.iload X13.here hx rfl (hb hby at_86) rfl ?_
    show Steps p.tables e below (T13.setTop (mkF m 88 #[.val (.int p0), .val (.int p1), .val (.int p2), .val (.int p3), .val (.int p4), .val (.int p5), .val (.int (Int32.ofNat nN)), .val (.int (Int32.ofNat cN)), .val (.int (Int32.ofNat mN)), .val (.int (Int32.ofNat x0)), .val (.int (Int32.ofNat x1)), .val (.int (Int32.ofNat x2)), .val (.int (Int32.ofNat x3)), .unset, .unset, .unset] [(.int (Int32.ofNat x1)), (.int (1 : Int32)), (.ref b10), (.ref b10)])) _
    exact k
  refine own_go k14 ?_
  clear k14
  obtain ⟨cl15, Ar15, q15, S15, N15, H15, G15⟩ := id (f13_2)
  have hi15 : ¬ ((1 : Int32) < 0 ∨ cl15.slots.size ≤ ((1 : Int32)).toNatClampNeg) := inb_of S15 ⟨by decide, by decide⟩
  obtain ⟨T16, h16, X16, e16, W16, st16⟩ := stI X13 hx hZ e13 Ar15 (j := (1 : Int32)) hi15 (g := (mkF m 88 #[.val (.int p0), .val (.int p1), .val (.int p2), .val (.int p3), .val (.int p4), .val (.int p5), .val (.int (Int32.ofNat nN)), .val (.int (Int32.ofNat cN)), .val (.int (Int32.ofNat mN)), .val (.int (Int32.ofNat x0)), .val (.int (Int32.ofNat x1)), .val (.int (Int32.ofNat x2)), .val (.int (Int32.ofNat x3)), .unset, .unset, .unset] [(.int (Int32.ofNat x1)), (.int (1 : Int32)), (.ref b10), (.ref b10)])) rfl rfl (hb hby at_88)
  refine own_go st16 ?_
  have V16 : Arv Z h16 b10 k10 .int (4 : Int32) [(.int (Int32.ofNat x0)), (.int (Int32.ofNat x1)), (.int (0 : Int32)), (.int (0 : Int32))] (.int (0 : Int32)) := Arv.set Ar15 q15 S15 N15 H15 G15 rfl W16 1 rfl (Nat.le_of_ble_eq_true rfl)
  have f16_2 : Arv Z h16 b10 k10 .int (4 : Int32) [(.int (Int32.ofNat x0)), (.int (Int32.ofNat x1)), (.int (0 : Int32)), (.int (0 : Int32))] (.int (0 : Int32)) := V16
  have N16 := Fr.snoc X16 N13 g_b10
  have Z16 : n0 ≤ h16.size := Nat.le_trans Z13 (Keep.of_wr W16).1
  have k17 : ∀ t, Steps p.tables e below (T16.setTop (mkF m 93 #[.val (.int p0), .val (.int p1), .val (.int p2), .val (.int p3), .val (.int p4), .val (.int p5), .val (.int (Int32.ofNat nN)), .val (.int (Int32.ofNat cN)), .val (.int (Int32.ofNat mN)), .val (.int (Int32.ofNat x0)), .val (.int (Int32.ofNat x1)), .val (.int (Int32.ofNat x2)), .val (.int (Int32.ofNat x3)), .unset, .unset, .unset] [(.int (Int32.ofNat x2)), (.int (2 : Int32)), (.ref b10), (.ref b10)])) t → Steps p.tables e below (T16.setTop (mkF m 89 #[.val (.int p0), .val (.int p1), .val (.int p2), .val (.int p3), .val (.int p4), .val (.int p5), .val (.int (Int32.ofNat nN)), .val (.int (Int32.ofNat cN)), .val (.int (Int32.ofNat mN)), .val (.int (Int32.ofNat x0)), .val (.int (Int32.ofNat x1)), .val (.int (Int32.ofNat x2)), .val (.int (Int32.ofNat x3)), .unset, .unset, .unset] [(.ref b10)])) t := fun t k => by
    refine XS.dup X16.here hx rfl (hb hby at_89) rfl rfl ?_
    show Steps p.tables e below (T16.setTop (mkF m 90 #[.val (.int p0), .val (.int p1), .val (.int p2), .val (.int p3), .val (.int p4), .val (.int p5), .val (.int (Int32.ofNat nN)), .val (.int (Int32.ofNat cN)), .val (.int (Int32.ofNat mN)), .val (.int (Int32.ofNat x0)), .val (.int (Int32.ofNat x1)), .val (.int (Int32.ofNat x2)), .val (.int (Int32.ofNat x3)), .unset, .unset, .unset] [(.ref b10), (.ref b10)])) _
    refine XS.iconst X16.here hx rfl (hb hby at_90) ?_
    show Steps p.tables e below (T16.setTop (mkF m 91 #[.val (.int p0), .val (.int p1), .val (.int p2), .val (.int p3), .val (.int p4), .val (.int p5), .val (.int (Int32.ofNat nN)), .val (.int (Int32.ofNat cN)), .val (.int (Int32.ofNat mN)), .val (.int (Int32.ofNat x0)), .val (.int (Int32.ofNat x1)), .val (.int (Int32.ofNat x2)), .val (.int (Int32.ofNat x3)), .unset, .unset, .unset] [(.int (2 : Int32)), (.ref b10), (.ref b10)])) _
    refine XS.iload X16.here hx rfl (hb hby at_91) rfl ?_
    show Steps p.tables e below (T16.setTop (mkF m 93 #[.val (.int p0), .val (.int p1), .val (.int p2), .val (.int p3), .val (.int p4), .val (.int p5), .val (.int (Int32.ofNat nN)), .val (.int (Int32.ofNat cN)), .val (.int (Int32.ofNat mN)), .val (.int (Int32.ofNat x0)), .val (.int (Int32.ofNat x1)), .val (.int (Int32.ofNat x2)), .val (.int (Int32.ofNat x3)), .unset, .unset, .unset] [(.int (Int32.ofNat x2)), (.int (2 : Int32)), (.ref b10), (.ref b10)])) _
    exact k
  refine own_go k17 ?_
  clear k17
  obtain ⟨cl18, Ar18, q18, S18, N18, H18, G18⟩ := id (f16_2)
  have hi18 : ¬ ((2 : Int32) < 0 ∨ cl18.slots.size ≤ ((2 : Int32)).toNatClampNeg) := inb_of S18 ⟨by decide, by decide⟩
  obtain ⟨T19, h19, X19, e19, W19, st19⟩ := stI X16 hx hZ e16 Ar18 (j := (2 : Int32)) hi18 (g := (mkF m 93 #[.val (.int p0), .val (.int p1), .val (.int p2), .val (.int p3), .val (.int p4), .val (.int p5), .val (.int (Int32.ofNat nN)), .val (.int (Int32.ofNat cN)), .val (.int (Int32.ofNat mN)), .val (.int (Int32.ofNat x0)), .val (.int (Int32.ofNat x1)), .val (.int (Int32.ofNat x2)), .val (.int (Int32.ofNat x3)), .unset, .unset, .unset] [(.int (Int32.ofNat x2)), (.int (2 : Int32)), (.ref b10), (.ref b10)])) rfl rfl (hb hby at_93)
  refine own_go st19 ?_
  have V19 : Arv Z h19 b10 k10 .int (4 : Int32) [(.int (Int32.ofNat x0)), (.int (Int32.ofNat x1)), (.int (Int32.ofNat x2)), (.int (0 : Int32))] (.int (0 : Int32)) := Arv.set Ar18 q18 S18 N18 H18 G18 rfl W19 2 rfl (Nat.le_of_ble_eq_true rfl)
  have f19_2 : Arv Z h19 b10 k10 .int (4 : Int32) [(.int (Int32.ofNat x0)), (.int (Int32.ofNat x1)), (.int (Int32.ofNat x2)), (.int (0 : Int32))] (.int (0 : Int32)) := V19
  have N19 := Fr.snoc X19 N16 g_b10
  have Z19 : n0 ≤ h19.size := Nat.le_trans Z16 (Keep.of_wr W19).1
  have k20 : ∀ t, Steps p.tables e below (T19.setTop (mkF m 98 #[.val (.int p0), .val (.int p1), .val (.int p2), .val (.int p3), .val (.int p4), .val (.int p5), .val (.int (Int32.ofNat nN)), .val (.int (Int32.ofNat cN)), .val (.int (Int32.ofNat mN)), .val (.int (Int32.ofNat x0)), .val (.int (Int32.ofNat x1)), .val (.int (Int32.ofNat x2)), .val (.int (Int32.ofNat x3)), .unset, .unset, .unset] [(.int (Int32.ofNat x3)), (.int (3 : Int32)), (.ref b10), (.ref b10)])) t → Steps p.tables e below (T19.setTop (mkF m 94 #[.val (.int p0), .val (.int p1), .val (.int p2), .val (.int p3), .val (.int p4), .val (.int p5), .val (.int (Int32.ofNat nN)), .val (.int (Int32.ofNat cN)), .val (.int (Int32.ofNat mN)), .val (.int (Int32.ofNat x0)), .val (.int (Int32.ofNat x1)), .val (.int (Int32.ofNat x2)), .val (.int (Int32.ofNat x3)), .unset, .unset, .unset] [(.ref b10)])) t := fun t k => by
    refine XS.dup X19.here hx rfl (hb hby at_94) rfl rfl ?_
    show Steps p.tables e below (T19.setTop (mkF m 95 #[.val (.int p0), .val (.int p1), .val (.int p2), .val (.int p3), .val (.int p4), .val (.int p5), .val (.int (Int32.ofNat nN)), .val (.int (Int32.ofNat cN)), .val (.int (Int32.ofNat mN)), .val (.int (Int32.ofNat x0)), .val (.int (Int32.ofNat x1)), .val (.int (Int32.ofNat x2)), .val (.int (Int32.ofNat x3)), .unset, .unset, .unset] [(.ref b10), (.ref b10)])) _
    refine XS.iconst X19.here hx rfl (hb hby at_95) ?_
    show Steps p.tables e below (T19.setTop (mkF m 96 #[.val (.int p0), .val (.int p1), .val (.int p2), .val (.int p3), .val (.int p4), .val (.int p5), .val (.int (Int32.ofNat nN)), .val (.int (Int32.ofNat cN)), .val (.int (Int32.ofNat mN)), .val (.int (Int32.ofNat x0)), .val (.int (Int32.ofNat x1)), .val (.int (Int32.ofNat x2)), .val (.int (Int32.ofNat x3)), .unset, .unset, .unset] [(.int (3 : Int32)), (.ref b10), (.ref b10)])) _
    refine XS.iload X19.here hx rfl (hb hby at_96) rfl ?_
    show Steps p.tables e below (T19.setTop (mkF m 98 #[.val (.int p0), .val (.int p1), .val (.int p2), .val (.int p3), .val (.int p4), .val (.int p5), .val (.int (Int32.ofNat nN)), .val (.int (Int32.ofNat cN)), .val (.int (Int32.ofNat mN)), .val (.int (Int32.ofNat x0)), .val (.int (Int32.ofNat x1)), .val (.int (Int32.ofNat x2)), .val (.int (Int32.ofNat x3)), .unset, .unset, .unset] [(.int (Int32.ofNat x3)), (.int (3 : Int32)), (.ref b10), (.ref b10)])) _
    exact k
  refine own_go k20 ?_
  clear k20
  obtain ⟨cl21, Ar21, q21, S21, N21, H21, G21⟩ := id (f19_2)
  have hi21 : ¬ ((3 : Int32) < 0 ∨ cl21.slots.size ≤ ((3 : Int32)).toNatClampNeg) := inb_of S21 ⟨by decide, by decide⟩
  obtain ⟨T22, h22, X22, e22, W22, st22⟩ := stI X19 hx hZ e19 Ar21 (j := (3 : Int32)) hi21 (g := (mkF m 98 #[.val (.int p0), .val (.int p1), .val (.int p2), .val (.int p3), .val (.int p4), .val (.int p5), .val (.int (Int32.ofNat nN)), .val (.int (Int32.ofNat cN)), .val (.int (Int32.ofNat mN)), .val (.int (Int32.ofNat x0)), .val (.int (Int32.ofNat x1)), .val (.int (Int32.ofNat x2)), .val (.int (Int32.ofNat x3)), .unset, .unset, .unset] [(.int (Int32.ofNat x3)), (.int (3 : Int32)), (.ref b10), (.ref b10)])) rfl rfl (hb hby at_98)
  refine own_go st22 ?_
  have V22 : Arv Z h22 b10 k10 .int (4 : Int32) [(.int (Int32.ofNat x0)), (.int (Int32.ofNat x1)), (.int (Int32.ofNat x2)), (.int (Int32.ofNat x3))] (.int (0 : Int32)) := Arv.set Ar21 q21 S21 N21 H21 G21 rfl W22 3 rfl (Nat.le_of_ble_eq_true rfl)
  have f22_2 : Arv Z h22 b10 k10 .int (4 : Int32) [(.int (Int32.ofNat x0)), (.int (Int32.ofNat x1)), (.int (Int32.ofNat x2)), (.int (Int32.ofNat x3))] (.int (0 : Int32)) := V22
  have N22 := Fr.snoc X22 N19 g_b10
  have Z22 : n0 ≤ h22.size := Nat.le_trans Z19 (Keep.of_wr W22).1
  have k24 : ∀ t, Steps p.tables e below (T22.setTop (mkF m 107 #[.val (.int p0), .val (.int p1), .val (.int p2), .val (.int p3), .val (.int p4), .val (.int p5), .val (.int (Int32.ofNat nN)), .val (.int (Int32.ofNat cN)), .val (.int (Int32.ofNat mN)), .val (.int (Int32.ofNat x0)), .val (.int (Int32.ofNat x1)), .val (.int (Int32.ofNat x2)), .val (.int (Int32.ofNat x3)), .val (.ref b10), .unset, .unset] [(.int (Int32.ofNat cN)), (.ref b10), (.int (Int32.ofNat nN))])) t → Steps p.tables e below (T22.setTop (mkF m 99 #[.val (.int p0), .val (.int p1), .val (.int p2), .val (.int p3), .val (.int p4), .val (.int p5), .val (.int (Int32.ofNat nN)), .val (.int (Int32.ofNat cN)), .val (.int (Int32.ofNat mN)), .val (.int (Int32.ofNat x0)), .val (.int (Int32.ofNat x1)), .val (.int (Int32.ofNat x2)), .val (.int (Int32.ofNat x3)), .unset, .unset, .unset] [(.ref b10)])) t := fun t k => by
    refine XS.astore X22.here hx rfl (hb hby at_99) rfl rfl (l' := #[.val (.int p0), .val (.int p1), .val (.int p2), .val (.int p3), .val (.int p4), .val (.int p5), .val (.int (Int32.ofNat nN)), .val (.int (Int32.ofNat cN)), .val (.int (Int32.ofNat mN)), .val (.int (Int32.ofNat x0)), .val (.int (Int32.ofNat x1)), .val (.int (Int32.ofNat x2)), .val (.int (Int32.ofNat x3)), .val (.ref b10), .unset, .unset]) rfl ?_
    show Steps p.tables e below (T22.setTop (mkF m 101 #[.val (.int p0), .val (.int p1), .val (.int p2), .val (.int p3), .val (.int p4), .val (.int p5), .val (.int (Int32.ofNat nN)), .val (.int (Int32.ofNat cN)), .val (.int (Int32.ofNat mN)), .val (.int (Int32.ofNat x0)), .val (.int (Int32.ofNat x1)), .val (.int (Int32.ofNat x2)), .val (.int (Int32.ofNat x3)), .val (.ref b10), .unset, .unset] [])) _
    refine XS.iload X22.here hx rfl (hb hby at_101) rfl ?_
    show Steps p.tables e below (T22.setTop (mkF m 103 #[.val (.int p0), .val (.int p1), .val (.int p2), .val (.int p3), .val (.int p4), .val (.int p5), .val (.int (Int32.ofNat nN)), .val (.int (Int32.ofNat cN)), .val (.int (Int32.ofNat mN)), .val (.int (Int32.ofNat x0)), .val (.int (Int32.ofNat x1)), .val (.int (Int32.ofNat x2)), .val (.int (Int32.ofNat x3)), .val (.ref b10), .unset, .unset] [(.int (Int32.ofNat nN))])) _
    refine XS.aload X22.here hx rfl (hb hby at_103) rfl rfl ?_
    show Steps p.tables e below (T22.setTop (mkF m 105 #[.val (.int p0), .val (.int p1), .val (.int p2), .val (.int p3), .val (.int p4), .val (.int p5), .val (.int (Int32.ofNat nN)), .val (.int (Int32.ofNat cN)), .val (.int (Int32.ofNat mN)), .val (.int (Int32.ofNat x0)), .val (.int (Int32.ofNat x1)), .val (.int (Int32.ofNat x2)), .val (.int (Int32.ofNat x3)), .val (.ref b10), .unset, .unset] [(.ref b10), (.int (Int32.ofNat nN))])) _
    refine XS.iload X22.here hx rfl (hb hby at_105) rfl ?_
    show Steps p.tables e below (T22.setTop (mkF m 107 #[.val (.int p0), .val (.int p1), .val (.int p2), .val (.int p3), .val (.int p4), .val (.int p5), .val (.int (Int32.ofNat nN)), .val (.int (Int32.ofNat cN)), .val (.int (Int32.ofNat mN)), .val (.int (Int32.ofNat x0)), .val (.int (Int32.ofNat x1)), .val (.int (Int32.ofNat x2)), .val (.int (Int32.ofNat x3)), .val (.ref b10), .unset, .unset] [(.int (Int32.ofNat cN)), (.ref b10), (.int (Int32.ofNat nN))])) _
    exact k
  refine own_go k24 ?_
  clear k24
  obtain ⟨_, _, ⟨T23, L23, k23, n23⟩, -, X23, ⟨Lc23, hQ23, l23, y23, z23⟩, st23⟩ := Jvm.LawKit.callS X22 hx (y := (⟨"com/example/chronopath/chronopath/network/Network", "firstSlots", "(I[II)[I"⟩ : MethodName)) hown (mvT hZ (hw _ (List.mem_of_getElem? (i := 2) rfl))) (mvT hZ (hw _ (List.mem_of_getElem? (i := 3) rfl))) (mvT hZ (hw _ (List.mem_of_getElem? (i := 4) rfl))) (mvT hZ (hw _ (List.mem_of_getElem? (i := 5) rfl))) (by decide) (backOf (W := 0) (own_rm_first l Z a0 hw [] b10 nN cN (own_nn x0 x1 x2 x3) k10 h22 n0 Z22 hN4 hc4 hxx (by rw [own_lit]; exact f22_2)) hZ (hw _ (List.mem_of_getElem? (i := 5) rfl)) (hw _ (List.mem_of_getElem? (i := 4) rfl)) (by decide) (by decide)) (g := (mkF m 107 #[.val (.int p0), .val (.int p1), .val (.int p2), .val (.int p3), .val (.int p4), .val (.int p5), .val (.int (Int32.ofNat nN)), .val (.int (Int32.ofNat cN)), .val (.int (Int32.ofNat mN)), .val (.int (Int32.ofNat x0)), .val (.int (Int32.ofNat x1)), .val (.int (Int32.ofNat x2)), .val (.int (Int32.ofNat x3)), .val (.ref b10), .unset, .unset] [(.int (Int32.ofNat cN)), (.ref b10), (.int (Int32.ofNat nN))])) rfl (by rw [hml]; rfl) (argsL := [(.int (Int32.ofNat nN)), (.ref b10), (.int (Int32.ofNat cN))]) (rest := []) (lenOf own_pd_28I5bII295bI rfl) rfl (by show 2 * 0 + _ ≤ _; exact Nat.le_of_eq rfl) (hb hby at_107) (fun _ _ => ⟨rfl, e22, (by decide : 1 + 1 ≤ _), (by decide : 4 + 5 ≤ _)⟩)
  dsimp only [Pt.U, Pt.locs, Pt.cells, Pt.slots] at X23 l23 y23 z23 st23 hQ23
  subst l23 y23 z23
  obtain ⟨b23, k23r, rfl, N23q, K23q, g_b23, s_b23, V23⟩ := hQ23
  have N23 := Fr.app N22 N23q
  have ne_b10_b23 : b10 ≠ b23 := Nat.ne_of_lt (Nat.lt_of_lt_of_le f22_2.lt s_b23)
  have f23_2 : Arv Z T23.heap b10 k10 .int (4 : Int32) [(.int (Int32.ofNat x0)), (.int (Int32.ofNat x1)), (.int (Int32.ofNat x2)), (.int (Int32.ofNat x3))] (.int (0 : Int32)) := f22_2.keep K23q nin0
  have Z23 : n0 ≤ T23.heap.size := Nat.le_trans Z22 K23q.1
  refine own_go st23 ?_
  have k25 : ∀ t, Steps p.tables e below (T23.setTop (mkF m 119 #[.val (.int p0), .val (.int p1), .val (.int p2), .val (.int p3), .val (.int p4), .val (.int p5), .val (.int (Int32.ofNat nN)), .val (.int (Int32.ofNat cN)), .val (.int (Int32.ofNat mN)), .val (.int (Int32.ofNat x0)), .val (.int (Int32.ofNat x1)), .val (.int (Int32.ofNat x2)), .val (.int (Int32.ofNat x3)), .val (.ref b10), .val (.ref b23), .unset] [(.ref b23)])) t → Steps p.tables e below (T23.setTop (mkF m 110 #[.val (.int p0), .val (.int p1), .val (.int p2), .val (.int p3), .val (.int p4), .val (.int p5), .val (.int (Int32.ofNat nN)), .val (.int (Int32.ofNat cN)), .val (.int (Int32.ofNat mN)), .val (.int (Int32.ofNat x0)), .val (.int (Int32.ofNat x1)), .val (.int (Int32.ofNat x2)), .val (.int (Int32.ofNat x3)), .val (.ref b10), .unset, .unset] [(.ref b23)])) t := fun t k => by
    refine XS.astore X23.here hx rfl (hb hby at_110) rfl rfl (l' := #[.val (.int p0), .val (.int p1), .val (.int p2), .val (.int p3), .val (.int p4), .val (.int p5), .val (.int (Int32.ofNat nN)), .val (.int (Int32.ofNat cN)), .val (.int (Int32.ofNat mN)), .val (.int (Int32.ofNat x0)), .val (.int (Int32.ofNat x1)), .val (.int (Int32.ofNat x2)), .val (.int (Int32.ofNat x3)), .val (.ref b10), .val (.ref b23), .unset]) rfl ?_
    show Steps p.tables e below (T23.setTop (mkF m 112 #[.val (.int p0), .val (.int p1), .val (.int p2), .val (.int p3), .val (.int p4), .val (.int p5), .val (.int (Int32.ofNat nN)), .val (.int (Int32.ofNat cN)), .val (.int (Int32.ofNat mN)), .val (.int (Int32.ofNat x0)), .val (.int (Int32.ofNat x1)), .val (.int (Int32.ofNat x2)), .val (.int (Int32.ofNat x3)), .val (.ref b10), .val (.ref b23), .unset] [])) _
    refine XS.aload X23.here hx rfl (hb hby at_112) rfl rfl ?_
    show Steps p.tables e below (T23.setTop (mkF m 114 #[.val (.int p0), .val (.int p1), .val (.int p2), .val (.int p3), .val (.int p4), .val (.int p5), .val (.int (Int32.ofNat nN)), .val (.int (Int32.ofNat cN)), .val (.int (Int32.ofNat mN)), .val (.int (Int32.ofNat x0)), .val (.int (Int32.ofNat x1)), .val (.int (Int32.ofNat x2)), .val (.int (Int32.ofNat x3)), .val (.ref b10), .val (.ref b23), .unset] [(.ref b23)])) _
    refine XS.ifnullNo X23.here hx rfl (hb hby at_114) rfl ?_
    show Steps p.tables e below (T23.setTop (mkF m 117 #[.val (.int p0), .val (.int p1), .val (.int p2), .val (.int p3), .val (.int p4), .val (.int p5), .val (.int (Int32.ofNat nN)), .val (.int (Int32.ofNat cN)), .val (.int (Int32.ofNat mN)), .val (.int (Int32.ofNat x0)), .val (.int (Int32.ofNat x1)), .val (.int (Int32.ofNat x2)), .val (.int (Int32.ofNat x3)), .val (.ref b10), .val (.ref b23), .unset] [])) _
    refine XS.aload X23.here hx rfl (hb hby at_117) rfl rfl ?_
    show Steps p.tables e below (T23.setTop (mkF m 119 #[.val (.int p0), .val (.int p1), .val (.int p2), .val (.int p3), .val (.int p4), .val (.int p5), .val (.int (Int32.ofNat nN)), .val (.int (Int32.ofNat cN)), .val (.int (Int32.ofNat mN)), .val (.int (Int32.ofNat x0)), .val (.int (Int32.ofNat x1)), .val (.int (Int32.ofNat x2)), .val (.int (Int32.ofNat x3)), .val (.ref b10), .val (.ref b23), .unset] [(.ref b23)])) _
    exact k
  refine own_go k25 ?_
  clear k25
  obtain ⟨cl26, Ar26, -, S26, N26, -, -⟩ := id (V23)
  have k28 : ∀ t, Steps p.tables e below (T23.setTop (mkF m 144 #[.val (.int p0), .val (.int p1), .val (.int p2), .val (.int p3), .val (.int p4), .val (.int p5), .val (.int (Int32.ofNat nN)), .val (.int (Int32.ofNat cN)), .val (.int (Int32.ofNat mN)), .val (.int (Int32.ofNat x0)), .val (.int (Int32.ofNat x1)), .val (.int (Int32.ofNat x2)), .val (.int (Int32.ofNat x3)), .val (.ref b10), .val (.ref b23), .unset] [(.int (Int32.ofNat x3)), (.int (Int32.ofNat x2)), (.int (Int32.ofNat x1)), (.int (Int32.ofNat x0)), (.int (Int32.ofNat cN)), (.int (Int32.ofNat nN)), (.int (0 : Int32)), (.ref b23)])) t → Steps p.tables e below (T23.setTop (mkF m 119 #[.val (.int p0), .val (.int p1), .val (.int p2), .val (.int p3), .val (.int p4), .val (.int p5), .val (.int (Int32.ofNat nN)), .val (.int (Int32.ofNat cN)), .val (.int (Int32.ofNat mN)), .val (.int (Int32.ofNat x0)), .val (.int (Int32.ofNat x1)), .val (.int (Int32.ofNat x2)), .val (.int (Int32.ofNat x3)), .val (.ref b10), .val (.ref b23), .unset] [(.ref b23)])) t := fun t k => by
    refine X23.arraylength hx Ar26.1 (State.isArrayOf_alike hZ.alike Ar26.2.1) (g := (mkF m 119 #[.val (.int p0), .val (.int p1), .val (.int p2), .val (.int p3), .val (.int p4), .val (.int p5), .val (.int (Int32.ofNat nN)), .val (.int (Int32.ofNat cN)), .val (.int (Int32.ofNat mN)), .val (.int (Int32.ofNat x0)), .val (.int (Int32.ofNat x1)), .val (.int (Int32.ofNat x2)), .val (.int (Int32.ofNat x3)), .val (.ref b10), .val (.ref b23), .unset] [(.ref b23)])) rfl rfl (hb hby at_119) _ ?_
    rw [len_of S26 N26]
    show Steps p.tables e below (T23.setTop (mkF m 120 #[.val (.int p0), .val (.int p1), .val (.int p2), .val (.int p3), .val (.int p4), .val (.int p5), .val (.int (Int32.ofNat nN)), .val (.int (Int32.ofNat cN)), .val (.int (Int32.ofNat mN)), .val (.int (Int32.ofNat x0)), .val (.int (Int32.ofNat x1)), .val (.int (Int32.ofNat x2)), .val (.int (Int32.ofNat x3)), .val (.ref b10), .val (.ref b23), .unset] [(.int (Int32.ofNat (nN + 1)))])) _
    refine XS.iload X23.here hx rfl (hb hby at_120) rfl ?_
    show Steps p.tables e below (T23.setTop (mkF m 122 #[.val (.int p0), .val (.int p1), .val (.int p2), .val (.int p3), .val (.int p4), .val (.int p5), .val (.int (Int32.ofNat nN)), .val (.int (Int32.ofNat cN)), .val (.int (Int32.ofNat mN)), .val (.int (Int32.ofNat x0)), .val (.int (Int32.ofNat x1)), .val (.int (Int32.ofNat x2)), .val (.int (Int32.ofNat x3)), .val (.ref b10), .val (.ref b23), .unset] [(.int (Int32.ofNat nN)), (.int (Int32.ofNat (nN + 1)))])) _
    refine XS.iconst X23.here hx rfl (hb hby at_122) ?_
    show Steps p.tables e below (T23.setTop (mkF m 123 #[.val (.int p0), .val (.int p1), .val (.int p2), .val (.int p3), .val (.int p4), .val (.int p5), .val (.int (Int32.ofNat nN)), .val (.int (Int32.ofNat cN)), .val (.int (Int32.ofNat mN)), .val (.int (Int32.ofNat x0)), .val (.int (Int32.ofNat x1)), .val (.int (Int32.ofNat x2)), .val (.int (Int32.ofNat x3)), .val (.ref b10), .val (.ref b23), .unset] [(.int (1 : Int32)), (.int (Int32.ofNat nN)), (.int (Int32.ofNat (nN + 1)))])) _
    refine XS.iadd X23.here hx rfl (hb hby at_123) rfl ?_
    show Steps p.tables e below (T23.setTop (mkF m 124 #[.val (.int p0), .val (.int p1), .val (.int p2), .val (.int p3), .val (.int p4), .val (.int p5), .val (.int (Int32.ofNat nN)), .val (.int (Int32.ofNat cN)), .val (.int (Int32.ofNat mN)), .val (.int (Int32.ofNat x0)), .val (.int (Int32.ofNat x1)), .val (.int (Int32.ofNat x2)), .val (.int (Int32.ofNat x3)), .val (.ref b10), .val (.ref b23), .unset] [(.int ((Int32.ofNat nN) + (1 : Int32))), (.int (Int32.ofNat (nN + 1)))])) _
    refine XS.icmpYes X23.here hx rfl (pc0 := 124) (pc' := 129) rfl (hb hby at_124) rfl (teq (own_succ nN).symm).1 (by decide) (by decide) ?_
    show Steps p.tables e below (T23.setTop (mkF m 129 #[.val (.int p0), .val (.int p1), .val (.int p2), .val (.int p3), .val (.int p4), .val (.int p5), .val (.int (Int32.ofNat nN)), .val (.int (Int32.ofNat cN)), .val (.int (Int32.ofNat mN)), .val (.int (Int32.ofNat x0)), .val (.int (Int32.ofNat x1)), .val (.int (Int32.ofNat x2)), .val (.int (Int32.ofNat x3)), .val (.ref b10), .val (.ref b23), .unset] [])) _
    refine XS.aload X23.here hx rfl (hb hby at_129) rfl rfl ?_
    show Steps p.tables e below (T23.setTop (mkF m 131 #[.val (.int p0), .val (.int p1), .val (.int p2), .val (.int p3), .val (.int p4), .val (.int p5), .val (.int (Int32.ofNat nN)), .val (.int (Int32.ofNat cN)), .val (.int (Int32.ofNat mN)), .val (.int (Int32.ofNat x0)), .val (.int (Int32.ofNat x1)), .val (.int (Int32.ofNat x2)), .val (.int (Int32.ofNat x3)), .val (.ref b10), .val (.ref b23), .unset] [(.ref b23)])) _
    refine XS.iconst X23.here hx rfl (hb hby at_131) ?_
    show Steps p.tables e below (T23.setTop (mkF m 132 #[.val (.int p0), .val (.int p1), .val (.int p2), .val (.int p3), .val (.int p4), .val (.int p5), .val (.int (Int32.ofNat nN)), .val (.int (Int32.ofNat cN)), .val (.int (Int32.ofNat mN)), .val (.int (Int32.ofNat x0)), .val (.int (Int32.ofNat x1)), .val (.int (Int32.ofNat x2)), .val (.int (Int32.ofNat x3)), .val (.ref b10), .val (.ref b23), .unset] [(.int (0 : Int32)), (.ref b23)])) _
    refine XS.iload X23.here hx rfl (hb hby at_132) rfl ?_
    show Steps p.tables e below (T23.setTop (mkF m 134 #[.val (.int p0), .val (.int p1), .val (.int p2), .val (.int p3), .val (.int p4), .val (.int p5), .val (.int (Int32.ofNat nN)), .val (.int (Int32.ofNat cN)), .val (.int (Int32.ofNat mN)), .val (.int (Int32.ofNat x0)), .val (.int (Int32.ofNat x1)), .val (.int (Int32.ofNat x2)), .val (.int (Int32.ofNat x3)), .val (.ref b10), .val (.ref b23), .unset] [(.int (Int32.ofNat nN)), (.int (0 : Int32)), (.ref b23)])) _
    refine XS.iload X23.here hx rfl (hb hby at_134) rfl ?_
    show Steps p.tables e below (T23.setTop (mkF m 136 #[.val (.int p0), .val (.int p1), .val (.int p2), .val (.int p3), .val (.int p4), .val (.int p5), .val (.int (Int32.ofNat nN)), .val (.int (Int32.ofNat cN)), .val (.int (Int32.ofNat mN)), .val (.int (Int32.ofNat x0)), .val (.int (Int32.ofNat x1)), .val (.int (Int32.ofNat x2)), .val (.int (Int32.ofNat x3)), .val (.ref b10), .val (.ref b23), .unset] [(.int (Int32.ofNat cN)), (.int (Int32.ofNat nN)), (.int (0 : Int32)), (.ref b23)])) _
    refine XS.iload X23.here hx rfl (hb hby at_136) rfl ?_
    show Steps p.tables e below (T23.setTop (mkF m 138 #[.val (.int p0), .val (.int p1), .val (.int p2), .val (.int p3), .val (.int p4), .val (.int p5), .val (.int (Int32.ofNat nN)), .val (.int (Int32.ofNat cN)), .val (.int (Int32.ofNat mN)), .val (.int (Int32.ofNat x0)), .val (.int (Int32.ofNat x1)), .val (.int (Int32.ofNat x2)), .val (.int (Int32.ofNat x3)), .val (.ref b10), .val (.ref b23), .unset] [(.int (Int32.ofNat x0)), (.int (Int32.ofNat cN)), (.int (Int32.ofNat nN)), (.int (0 : Int32)), (.ref b23)])) _
    refine XS.iload X23.here hx rfl (hb hby at_138) rfl ?_
    show Steps p.tables e below (T23.setTop (mkF m 140 #[.val (.int p0), .val (.int p1), .val (.int p2), .val (.int p3), .val (.int p4), .val (.int p5), .val (.int (Int32.ofNat nN)), .val (.int (Int32.ofNat cN)), .val (.int (Int32.ofNat mN)), .val (.int (Int32.ofNat x0)), .val (.int (Int32.ofNat x1)), .val (.int (Int32.ofNat x2)), .val (.int (Int32.ofNat x3)), .val (.ref b10), .val (.ref b23), .unset] [(.int (Int32.ofNat x1)), (.int (Int32.ofNat x0)), (.int (Int32.ofNat cN)), (.int (Int32.ofNat nN)), (.int (0 : Int32)), (.ref b23)])) _
    refine XS.iload X23.here hx rfl (hb hby at_140) rfl ?_
    show Steps p.tables e below (T23.setTop (mkF m 142 #[.val (.int p0), .val (.int p1), .val (.int p2), .val (.int p3), .val (.int p4), .val (.int p5), .val (.int (Int32.ofNat nN)), .val (.int (Int32.ofNat cN)), .val (.int (Int32.ofNat mN)), .val (.int (Int32.ofNat x0)), .val (.int (Int32.ofNat x1)), .val (.int (Int32.ofNat x2)), .val (.int (Int32.ofNat x3)), .val (.ref b10), .val (.ref b23), .unset] [(.int (Int32.ofNat x2)), (.int (Int32.ofNat x1)), (.int (Int32.ofNat x0)), (.int (Int32.ofNat cN)), (.int (Int32.ofNat nN)), (.int (0 : Int32)), (.ref b23)])) _
    refine XS.iload X23.here hx rfl (hb hby at_142) rfl ?_
    show Steps p.tables e below (T23.setTop (mkF m 144 #[.val (.int p0), .val (.int p1), .val (.int p2), .val (.int p3), .val (.int p4), .val (.int p5), .val (.int (Int32.ofNat nN)), .val (.int (Int32.ofNat cN)), .val (.int (Int32.ofNat mN)), .val (.int (Int32.ofNat x0)), .val (.int (Int32.ofNat x1)), .val (.int (Int32.ofNat x2)), .val (.int (Int32.ofNat x3)), .val (.ref b10), .val (.ref b23), .unset] [(.int (Int32.ofNat x3)), (.int (Int32.ofNat x2)), (.int (Int32.ofNat x1)), (.int (Int32.ofNat x0)), (.int (Int32.ofNat cN)), (.int (Int32.ofNat nN)), (.int (0 : Int32)), (.ref b23)])) _
    exact k
  refine own_go k28 ?_
  clear k28
  obtain ⟨_, _, ⟨T27, L27, k27, n27⟩, -, X27, ⟨Lc27, hQ27, l27, y27, z27⟩, st27⟩ := Jvm.LawKit.callS X23 hx (y := (⟨"com/example/chronopath/chronopath/network/NetworkFirstSlotsPinLaw", "slot", "([IIIIIIII)Z"⟩ : MethodName)) hown (mvT hZ (hw _ (List.mem_of_getElem? (i := 6) rfl))) (mvT hZ (hw _ (List.mem_of_getElem? (i := 7) rfl))) (mvT hZ (hw _ (List.mem_of_getElem? (i := 8) rfl))) (mvT hZ (hw _ (List.mem_of_getElem? (i := 9) rfl))) (by decide) (backOf (W := 0) (own_rm_slot l Z a0 hw [] b23 0 nN cN (own_nn x0 x1 x2 x3) k23r T23.heap n0 Z23 hN4 hc4 (by decide) hxx V23) hZ (hw _ (List.mem_of_getElem? (i := 9) rfl)) (hw _ (List.mem_of_getElem? (i := 8) rfl)) (by decide) (by decide)) (g := (mkF m 144 #[.val (.int p0), .val (.int p1), .val (.int p2), .val (.int p3), .val (.int p4), .val (.int p5), .val (.int (Int32.ofNat nN)), .val (.int (Int32.ofNat cN)), .val (.int (Int32.ofNat mN)), .val (.int (Int32.ofNat x0)), .val (.int (Int32.ofNat x1)), .val (.int (Int32.ofNat x2)), .val (.int (Int32.ofNat x3)), .val (.ref b10), .val (.ref b23), .unset] [(.int (Int32.ofNat x3)), (.int (Int32.ofNat x2)), (.int (Int32.ofNat x1)), (.int (Int32.ofNat x0)), (.int (Int32.ofNat cN)), (.int (Int32.ofNat nN)), (.int (0 : Int32)), (.ref b23)])) rfl (by rw [hml]; rfl) (argsL := [(.ref b23), (.int (0 : Int32)), (.int (Int32.ofNat nN)), (.int (Int32.ofNat cN)), (.int (Int32.ofNat x0)), (.int (Int32.ofNat x1)), (.int (Int32.ofNat x2)), (.int (Int32.ofNat x3))]) (rest := []) (lenOf own_pd_285bIIIIIIII29Z rfl) rfl (by show 2 * 0 + _ ≤ _; exact Nat.le_of_eq rfl) (hb hby at_144) (fun _ _ => ⟨rfl, rfl, (by decide : 2 + 0 ≤ _), (by decide : 9 + 0 ≤ _)⟩)
  dsimp only [Pt.U, Pt.locs, Pt.cells, Pt.slots] at X27 l27 y27 z27 st27 hQ27
  subst l27 y27 z27
  obtain ⟨rfl, N27q, eh27⟩ := hQ27
  have N27 := Fr.app N23 N27q
  refine own_go st27 ?_
  have k30 : ∀ t, Steps p.tables e below (T27.setTop (mkF m 165 #[.val (.int p0), .val (.int p1), .val (.int p2), .val (.int p3), .val (.int p4), .val (.int p5), .val (.int (Int32.ofNat nN)), .val (.int (Int32.ofNat cN)), .val (.int (Int32.ofNat mN)), .val (.int (Int32.ofNat x0)), .val (.int (Int32.ofNat x1)), .val (.int (Int32.ofNat x2)), .val (.int (Int32.ofNat x3)), .val (.ref b10), .val (.ref b23), .unset] [(.int (Int32.ofNat x3)), (.int (Int32.ofNat x2)), (.int (Int32.ofNat x1)), (.int (Int32.ofNat x0)), (.int (Int32.ofNat cN)), (.int (Int32.ofNat nN)), (.int (1 : Int32)), (.ref b23)])) t → Steps p.tables e below (T27.setTop (mkF m 147 #[.val (.int p0), .val (.int p1), .val (.int p2), .val (.int p3), .val (.int p4), .val (.int p5), .val (.int (Int32.ofNat nN)), .val (.int (Int32.ofNat cN)), .val (.int (Int32.ofNat mN)), .val (.int (Int32.ofNat x0)), .val (.int (Int32.ofNat x1)), .val (.int (Int32.ofNat x2)), .val (.int (Int32.ofNat x3)), .val (.ref b10), .val (.ref b23), .unset] [(.int (1 : Int32))])) t := fun t k => by
    refine XS.ifNo X27.here hx rfl (hb hby at_147) rfl ((if0 _ _).trans (feq (by decide : ¬ ((1 : Int32) = (0 : Int32)))).1) ?_
    show Steps p.tables e below (T27.setTop (mkF m 150 #[.val (.int p0), .val (.int p1), .val (.int p2), .val (.int p3), .val (.int p4), .val (.int p5), .val (.int (Int32.ofNat nN)), .val (.int (Int32.ofNat cN)), .val (.int (Int32.ofNat mN)), .val (.int (Int32.ofNat x0)), .val (.int (Int32.ofNat x1)), .val (.int (Int32.ofNat x2)), .val (.int (Int32.ofNat x3)), .val (.ref b10), .val (.ref b23), .unset] [])) _
    refine XS.aload X27.here hx rfl (hb hby at_150) rfl rfl ?_
    show Steps p.tables e below (T27.setTop (mkF m 152 #[.val (.int p0), .val (.int p1), .val (.int p2), .val (.int p3), .val (.int p4), .val (.int p5), .val (.int (Int32.ofNat nN)), .val (.int (Int32.ofNat cN)), .val (.int (Int32.ofNat mN)), .val (.int (Int32.ofNat x0)), .val (.int (Int32.ofNat x1)), .val (.int (Int32.ofNat x2)), .val (.int (Int32.ofNat x3)), .val (.ref b10), .val (.ref b23), .unset] [(.ref b23)])) _
    refine XS.iconst X27.here hx rfl (hb hby at_152) ?_
    show Steps p.tables e below (T27.setTop (mkF m 153 #[.val (.int p0), .val (.int p1), .val (.int p2), .val (.int p3), .val (.int p4), .val (.int p5), .val (.int (Int32.ofNat nN)), .val (.int (Int32.ofNat cN)), .val (.int (Int32.ofNat mN)), .val (.int (Int32.ofNat x0)), .val (.int (Int32.ofNat x1)), .val (.int (Int32.ofNat x2)), .val (.int (Int32.ofNat x3)), .val (.ref b10), .val (.ref b23), .unset] [(.int (1 : Int32)), (.ref b23)])) _
    refine XS.iload X27.here hx rfl (hb hby at_153) rfl ?_
    show Steps p.tables e below (T27.setTop (mkF m 155 #[.val (.int p0), .val (.int p1), .val (.int p2), .val (.int p3), .val (.int p4), .val (.int p5), .val (.int (Int32.ofNat nN)), .val (.int (Int32.ofNat cN)), .val (.int (Int32.ofNat mN)), .val (.int (Int32.ofNat x0)), .val (.int (Int32.ofNat x1)), .val (.int (Int32.ofNat x2)), .val (.int (Int32.ofNat x3)), .val (.ref b10), .val (.ref b23), .unset] [(.int (Int32.ofNat nN)), (.int (1 : Int32)), (.ref b23)])) _
    refine XS.iload X27.here hx rfl (hb hby at_155) rfl ?_
    show Steps p.tables e below (T27.setTop (mkF m 157 #[.val (.int p0), .val (.int p1), .val (.int p2), .val (.int p3), .val (.int p4), .val (.int p5), .val (.int (Int32.ofNat nN)), .val (.int (Int32.ofNat cN)), .val (.int (Int32.ofNat mN)), .val (.int (Int32.ofNat x0)), .val (.int (Int32.ofNat x1)), .val (.int (Int32.ofNat x2)), .val (.int (Int32.ofNat x3)), .val (.ref b10), .val (.ref b23), .unset] [(.int (Int32.ofNat cN)), (.int (Int32.ofNat nN)), (.int (1 : Int32)), (.ref b23)])) _
    refine XS.iload X27.here hx rfl (hb hby at_157) rfl ?_
    show Steps p.tables e below (T27.setTop (mkF m 159 #[.val (.int p0), .val (.int p1), .val (.int p2), .val (.int p3), .val (.int p4), .val (.int p5), .val (.int (Int32.ofNat nN)), .val (.int (Int32.ofNat cN)), .val (.int (Int32.ofNat mN)), .val (.int (Int32.ofNat x0)), .val (.int (Int32.ofNat x1)), .val (.int (Int32.ofNat x2)), .val (.int (Int32.ofNat x3)), .val (.ref b10), .val (.ref b23), .unset] [(.int (Int32.ofNat x0)), (.int (Int32.ofNat cN)), (.int (Int32.ofNat nN)), (.int (1 : Int32)), (.ref b23)])) _
    refine XS.iload X27.here hx rfl (hb hby at_159) rfl ?_
    show Steps p.tables e below (T27.setTop (mkF m 161 #[.val (.int p0), .val (.int p1), .val (.int p2), .val (.int p3), .val (.int p4), .val (.int p5), .val (.int (Int32.ofNat nN)), .val (.int (Int32.ofNat cN)), .val (.int (Int32.ofNat mN)), .val (.int (Int32.ofNat x0)), .val (.int (Int32.ofNat x1)), .val (.int (Int32.ofNat x2)), .val (.int (Int32.ofNat x3)), .val (.ref b10), .val (.ref b23), .unset] [(.int (Int32.ofNat x1)), (.int (Int32.ofNat x0)), (.int (Int32.ofNat cN)), (.int (Int32.ofNat nN)), (.int (1 : Int32)), (.ref b23)])) _
    refine XS.iload X27.here hx rfl (hb hby at_161) rfl ?_
    show Steps p.tables e below (T27.setTop (mkF m 163 #[.val (.int p0), .val (.int p1), .val (.int p2), .val (.int p3), .val (.int p4), .val (.int p5), .val (.int (Int32.ofNat nN)), .val (.int (Int32.ofNat cN)), .val (.int (Int32.ofNat mN)), .val (.int (Int32.ofNat x0)), .val (.int (Int32.ofNat x1)), .val (.int (Int32.ofNat x2)), .val (.int (Int32.ofNat x3)), .val (.ref b10), .val (.ref b23), .unset] [(.int (Int32.ofNat x2)), (.int (Int32.ofNat x1)), (.int (Int32.ofNat x0)), (.int (Int32.ofNat cN)), (.int (Int32.ofNat nN)), (.int (1 : Int32)), (.ref b23)])) _
    refine XS.iload X27.here hx rfl (hb hby at_163) rfl ?_
    show Steps p.tables e below (T27.setTop (mkF m 165 #[.val (.int p0), .val (.int p1), .val (.int p2), .val (.int p3), .val (.int p4), .val (.int p5), .val (.int (Int32.ofNat nN)), .val (.int (Int32.ofNat cN)), .val (.int (Int32.ofNat mN)), .val (.int (Int32.ofNat x0)), .val (.int (Int32.ofNat x1)), .val (.int (Int32.ofNat x2)), .val (.int (Int32.ofNat x3)), .val (.ref b10), .val (.ref b23), .unset] [(.int (Int32.ofNat x3)), (.int (Int32.ofNat x2)), (.int (Int32.ofNat x1)), (.int (Int32.ofNat x0)), (.int (Int32.ofNat cN)), (.int (Int32.ofNat nN)), (.int (1 : Int32)), (.ref b23)])) _
    exact k
  refine own_go k30 ?_
  clear k30
  obtain ⟨_, _, ⟨T29, L29, k29, n29⟩, -, X29, ⟨Lc29, hQ29, l29, y29, z29⟩, st29⟩ := Jvm.LawKit.callS X27 hx (y := (⟨"com/example/chronopath/chronopath/network/NetworkFirstSlotsPinLaw", "slot", "([IIIIIIII)Z"⟩ : MethodName)) hown (mvT hZ (hw _ (List.mem_of_getElem? (i := 6) rfl))) (mvT hZ (hw _ (List.mem_of_getElem? (i := 7) rfl))) (mvT hZ (hw _ (List.mem_of_getElem? (i := 8) rfl))) (mvT hZ (hw _ (List.mem_of_getElem? (i := 9) rfl))) (by decide) (backOf (W := 0) (own_rm_slot l Z a0 hw [] b23 1 nN cN (own_nn x0 x1 x2 x3) k23r T23.heap n0 Z23 hN4 hc4 (by decide) hxx V23) hZ (hw _ (List.mem_of_getElem? (i := 9) rfl)) (hw _ (List.mem_of_getElem? (i := 8) rfl)) (by decide) (by decide)) (g := (mkF m 165 #[.val (.int p0), .val (.int p1), .val (.int p2), .val (.int p3), .val (.int p4), .val (.int p5), .val (.int (Int32.ofNat nN)), .val (.int (Int32.ofNat cN)), .val (.int (Int32.ofNat mN)), .val (.int (Int32.ofNat x0)), .val (.int (Int32.ofNat x1)), .val (.int (Int32.ofNat x2)), .val (.int (Int32.ofNat x3)), .val (.ref b10), .val (.ref b23), .unset] [(.int (Int32.ofNat x3)), (.int (Int32.ofNat x2)), (.int (Int32.ofNat x1)), (.int (Int32.ofNat x0)), (.int (Int32.ofNat cN)), (.int (Int32.ofNat nN)), (.int (1 : Int32)), (.ref b23)])) rfl (by rw [hml]; rfl) (argsL := [(.ref b23), (.int (1 : Int32)), (.int (Int32.ofNat nN)), (.int (Int32.ofNat cN)), (.int (Int32.ofNat x0)), (.int (Int32.ofNat x1)), (.int (Int32.ofNat x2)), (.int (Int32.ofNat x3))]) (rest := []) (lenOf own_pd_285bIIIIIIII29Z rfl) rfl (by show 2 * 0 + _ ≤ _; exact Nat.le_of_eq rfl) (hb hby at_165) (fun _ _ => ⟨rfl, eh27, (by decide : 2 + 0 ≤ _), (by decide : 9 + 0 ≤ _)⟩)
  dsimp only [Pt.U, Pt.locs, Pt.cells, Pt.slots] at X29 l29 y29 z29 st29 hQ29
  subst l29 y29 z29
  obtain ⟨rfl, N29q, eh29⟩ := hQ29
  have N29 := Fr.app N27 N29q
  refine own_go st29 ?_
  have k32 : ∀ t, Steps p.tables e below (T29.setTop (mkF m 186 #[.val (.int p0), .val (.int p1), .val (.int p2), .val (.int p3), .val (.int p4), .val (.int p5), .val (.int (Int32.ofNat nN)), .val (.int (Int32.ofNat cN)), .val (.int (Int32.ofNat mN)), .val (.int (Int32.ofNat x0)), .val (.int (Int32.ofNat x1)), .val (.int (Int32.ofNat x2)), .val (.int (Int32.ofNat x3)), .val (.ref b10), .val (.ref b23), .unset] [(.int (Int32.ofNat x3)), (.int (Int32.ofNat x2)), (.int (Int32.ofNat x1)), (.int (Int32.ofNat x0)), (.int (Int32.ofNat cN)), (.int (Int32.ofNat nN)), (.int (2 : Int32)), (.ref b23)])) t → Steps p.tables e below (T29.setTop (mkF m 168 #[.val (.int p0), .val (.int p1), .val (.int p2), .val (.int p3), .val (.int p4), .val (.int p5), .val (.int (Int32.ofNat nN)), .val (.int (Int32.ofNat cN)), .val (.int (Int32.ofNat mN)), .val (.int (Int32.ofNat x0)), .val (.int (Int32.ofNat x1)), .val (.int (Int32.ofNat x2)), .val (.int (Int32.ofNat x3)), .val (.ref b10), .val (.ref b23), .unset] [(.int (1 : Int32))])) t := fun t k => by
    refine XS.ifNo X29.here hx rfl (hb hby at_168) rfl ((if0 _ _).trans (feq (by decide : ¬ ((1 : Int32) = (0 : Int32)))).1) ?_
    show Steps p.tables e below (T29.setTop (mkF m 171 #[.val (.int p0), .val (.int p1), .val (.int p2), .val (.int p3), .val (.int p4), .val (.int p5), .val (.int (Int32.ofNat nN)), .val (.int (Int32.ofNat cN)), .val (.int (Int32.ofNat mN)), .val (.int (Int32.ofNat x0)), .val (.int (Int32.ofNat x1)), .val (.int (Int32.ofNat x2)), .val (.int (Int32.ofNat x3)), .val (.ref b10), .val (.ref b23), .unset] [])) _
    refine XS.aload X29.here hx rfl (hb hby at_171) rfl rfl ?_
    show Steps p.tables e below (T29.setTop (mkF m 173 #[.val (.int p0), .val (.int p1), .val (.int p2), .val (.int p3), .val (.int p4), .val (.int p5), .val (.int (Int32.ofNat nN)), .val (.int (Int32.ofNat cN)), .val (.int (Int32.ofNat mN)), .val (.int (Int32.ofNat x0)), .val (.int (Int32.ofNat x1)), .val (.int (Int32.ofNat x2)), .val (.int (Int32.ofNat x3)), .val (.ref b10), .val (.ref b23), .unset] [(.ref b23)])) _
    refine XS.iconst X29.here hx rfl (hb hby at_173) ?_
    show Steps p.tables e below (T29.setTop (mkF m 174 #[.val (.int p0), .val (.int p1), .val (.int p2), .val (.int p3), .val (.int p4), .val (.int p5), .val (.int (Int32.ofNat nN)), .val (.int (Int32.ofNat cN)), .val (.int (Int32.ofNat mN)), .val (.int (Int32.ofNat x0)), .val (.int (Int32.ofNat x1)), .val (.int (Int32.ofNat x2)), .val (.int (Int32.ofNat x3)), .val (.ref b10), .val (.ref b23), .unset] [(.int (2 : Int32)), (.ref b23)])) _
    refine XS.iload X29.here hx rfl (hb hby at_174) rfl ?_
    show Steps p.tables e below (T29.setTop (mkF m 176 #[.val (.int p0), .val (.int p1), .val (.int p2), .val (.int p3), .val (.int p4), .val (.int p5), .val (.int (Int32.ofNat nN)), .val (.int (Int32.ofNat cN)), .val (.int (Int32.ofNat mN)), .val (.int (Int32.ofNat x0)), .val (.int (Int32.ofNat x1)), .val (.int (Int32.ofNat x2)), .val (.int (Int32.ofNat x3)), .val (.ref b10), .val (.ref b23), .unset] [(.int (Int32.ofNat nN)), (.int (2 : Int32)), (.ref b23)])) _
    refine XS.iload X29.here hx rfl (hb hby at_176) rfl ?_
    show Steps p.tables e below (T29.setTop (mkF m 178 #[.val (.int p0), .val (.int p1), .val (.int p2), .val (.int p3), .val (.int p4), .val (.int p5), .val (.int (Int32.ofNat nN)), .val (.int (Int32.ofNat cN)), .val (.int (Int32.ofNat mN)), .val (.int (Int32.ofNat x0)), .val (.int (Int32.ofNat x1)), .val (.int (Int32.ofNat x2)), .val (.int (Int32.ofNat x3)), .val (.ref b10), .val (.ref b23), .unset] [(.int (Int32.ofNat cN)), (.int (Int32.ofNat nN)), (.int (2 : Int32)), (.ref b23)])) _
    refine XS.iload X29.here hx rfl (hb hby at_178) rfl ?_
    show Steps p.tables e below (T29.setTop (mkF m 180 #[.val (.int p0), .val (.int p1), .val (.int p2), .val (.int p3), .val (.int p4), .val (.int p5), .val (.int (Int32.ofNat nN)), .val (.int (Int32.ofNat cN)), .val (.int (Int32.ofNat mN)), .val (.int (Int32.ofNat x0)), .val (.int (Int32.ofNat x1)), .val (.int (Int32.ofNat x2)), .val (.int (Int32.ofNat x3)), .val (.ref b10), .val (.ref b23), .unset] [(.int (Int32.ofNat x0)), (.int (Int32.ofNat cN)), (.int (Int32.ofNat nN)), (.int (2 : Int32)), (.ref b23)])) _
    refine XS.iload X29.here hx rfl (hb hby at_180) rfl ?_
    show Steps p.tables e below (T29.setTop (mkF m 182 #[.val (.int p0), .val (.int p1), .val (.int p2), .val (.int p3), .val (.int p4), .val (.int p5), .val (.int (Int32.ofNat nN)), .val (.int (Int32.ofNat cN)), .val (.int (Int32.ofNat mN)), .val (.int (Int32.ofNat x0)), .val (.int (Int32.ofNat x1)), .val (.int (Int32.ofNat x2)), .val (.int (Int32.ofNat x3)), .val (.ref b10), .val (.ref b23), .unset] [(.int (Int32.ofNat x1)), (.int (Int32.ofNat x0)), (.int (Int32.ofNat cN)), (.int (Int32.ofNat nN)), (.int (2 : Int32)), (.ref b23)])) _
    refine XS.iload X29.here hx rfl (hb hby at_182) rfl ?_
    show Steps p.tables e below (T29.setTop (mkF m 184 #[.val (.int p0), .val (.int p1), .val (.int p2), .val (.int p3), .val (.int p4), .val (.int p5), .val (.int (Int32.ofNat nN)), .val (.int (Int32.ofNat cN)), .val (.int (Int32.ofNat mN)), .val (.int (Int32.ofNat x0)), .val (.int (Int32.ofNat x1)), .val (.int (Int32.ofNat x2)), .val (.int (Int32.ofNat x3)), .val (.ref b10), .val (.ref b23), .unset] [(.int (Int32.ofNat x2)), (.int (Int32.ofNat x1)), (.int (Int32.ofNat x0)), (.int (Int32.ofNat cN)), (.int (Int32.ofNat nN)), (.int (2 : Int32)), (.ref b23)])) _
    refine XS.iload X29.here hx rfl (hb hby at_184) rfl ?_
    show Steps p.tables e below (T29.setTop (mkF m 186 #[.val (.int p0), .val (.int p1), .val (.int p2), .val (.int p3), .val (.int p4), .val (.int p5), .val (.int (Int32.ofNat nN)), .val (.int (Int32.ofNat cN)), .val (.int (Int32.ofNat mN)), .val (.int (Int32.ofNat x0)), .val (.int (Int32.ofNat x1)), .val (.int (Int32.ofNat x2)), .val (.int (Int32.ofNat x3)), .val (.ref b10), .val (.ref b23), .unset] [(.int (Int32.ofNat x3)), (.int (Int32.ofNat x2)), (.int (Int32.ofNat x1)), (.int (Int32.ofNat x0)), (.int (Int32.ofNat cN)), (.int (Int32.ofNat nN)), (.int (2 : Int32)), (.ref b23)])) _
    exact k
  refine own_go k32 ?_
  clear k32
  obtain ⟨_, _, ⟨T31, L31, k31, n31⟩, -, X31, ⟨Lc31, hQ31, l31, y31, z31⟩, st31⟩ := Jvm.LawKit.callS X29 hx (y := (⟨"com/example/chronopath/chronopath/network/NetworkFirstSlotsPinLaw", "slot", "([IIIIIIII)Z"⟩ : MethodName)) hown (mvT hZ (hw _ (List.mem_of_getElem? (i := 6) rfl))) (mvT hZ (hw _ (List.mem_of_getElem? (i := 7) rfl))) (mvT hZ (hw _ (List.mem_of_getElem? (i := 8) rfl))) (mvT hZ (hw _ (List.mem_of_getElem? (i := 9) rfl))) (by decide) (backOf (W := 0) (own_rm_slot l Z a0 hw [] b23 2 nN cN (own_nn x0 x1 x2 x3) k23r T23.heap n0 Z23 hN4 hc4 (by decide) hxx V23) hZ (hw _ (List.mem_of_getElem? (i := 9) rfl)) (hw _ (List.mem_of_getElem? (i := 8) rfl)) (by decide) (by decide)) (g := (mkF m 186 #[.val (.int p0), .val (.int p1), .val (.int p2), .val (.int p3), .val (.int p4), .val (.int p5), .val (.int (Int32.ofNat nN)), .val (.int (Int32.ofNat cN)), .val (.int (Int32.ofNat mN)), .val (.int (Int32.ofNat x0)), .val (.int (Int32.ofNat x1)), .val (.int (Int32.ofNat x2)), .val (.int (Int32.ofNat x3)), .val (.ref b10), .val (.ref b23), .unset] [(.int (Int32.ofNat x3)), (.int (Int32.ofNat x2)), (.int (Int32.ofNat x1)), (.int (Int32.ofNat x0)), (.int (Int32.ofNat cN)), (.int (Int32.ofNat nN)), (.int (2 : Int32)), (.ref b23)])) rfl (by rw [hml]; rfl) (argsL := [(.ref b23), (.int (2 : Int32)), (.int (Int32.ofNat nN)), (.int (Int32.ofNat cN)), (.int (Int32.ofNat x0)), (.int (Int32.ofNat x1)), (.int (Int32.ofNat x2)), (.int (Int32.ofNat x3))]) (rest := []) (lenOf own_pd_285bIIIIIIII29Z rfl) rfl (by show 2 * 0 + _ ≤ _; exact Nat.le_of_eq rfl) (hb hby at_186) (fun _ _ => ⟨rfl, eh29, (by decide : 2 + 0 ≤ _), (by decide : 9 + 0 ≤ _)⟩)
  dsimp only [Pt.U, Pt.locs, Pt.cells, Pt.slots] at X31 l31 y31 z31 st31 hQ31
  subst l31 y31 z31
  obtain ⟨rfl, N31q, eh31⟩ := hQ31
  have N31 := Fr.app N29 N31q
  refine own_go st31 ?_
  have k34 : ∀ t, Steps p.tables e below (T31.setTop (mkF m 207 #[.val (.int p0), .val (.int p1), .val (.int p2), .val (.int p3), .val (.int p4), .val (.int p5), .val (.int (Int32.ofNat nN)), .val (.int (Int32.ofNat cN)), .val (.int (Int32.ofNat mN)), .val (.int (Int32.ofNat x0)), .val (.int (Int32.ofNat x1)), .val (.int (Int32.ofNat x2)), .val (.int (Int32.ofNat x3)), .val (.ref b10), .val (.ref b23), .unset] [(.int (Int32.ofNat x3)), (.int (Int32.ofNat x2)), (.int (Int32.ofNat x1)), (.int (Int32.ofNat x0)), (.int (Int32.ofNat cN)), (.int (Int32.ofNat nN)), (.int (3 : Int32)), (.ref b23)])) t → Steps p.tables e below (T31.setTop (mkF m 189 #[.val (.int p0), .val (.int p1), .val (.int p2), .val (.int p3), .val (.int p4), .val (.int p5), .val (.int (Int32.ofNat nN)), .val (.int (Int32.ofNat cN)), .val (.int (Int32.ofNat mN)), .val (.int (Int32.ofNat x0)), .val (.int (Int32.ofNat x1)), .val (.int (Int32.ofNat x2)), .val (.int (Int32.ofNat x3)), .val (.ref b10), .val (.ref b23), .unset] [(.int (1 : Int32))])) t := fun t k => by
    refine XS.ifNo X31.here hx rfl (hb hby at_189) rfl ((if0 _ _).trans (feq (by decide : ¬ ((1 : Int32) = (0 : Int32)))).1) ?_
    show Steps p.tables e below (T31.setTop (mkF m 192 #[.val (.int p0), .val (.int p1), .val (.int p2), .val (.int p3), .val (.int p4), .val (.int p5), .val (.int (Int32.ofNat nN)), .val (.int (Int32.ofNat cN)), .val (.int (Int32.ofNat mN)), .val (.int (Int32.ofNat x0)), .val (.int (Int32.ofNat x1)), .val (.int (Int32.ofNat x2)), .val (.int (Int32.ofNat x3)), .val (.ref b10), .val (.ref b23), .unset] [])) _
    refine XS.aload X31.here hx rfl (hb hby at_192) rfl rfl ?_
    show Steps p.tables e below (T31.setTop (mkF m 194 #[.val (.int p0), .val (.int p1), .val (.int p2), .val (.int p3), .val (.int p4), .val (.int p5), .val (.int (Int32.ofNat nN)), .val (.int (Int32.ofNat cN)), .val (.int (Int32.ofNat mN)), .val (.int (Int32.ofNat x0)), .val (.int (Int32.ofNat x1)), .val (.int (Int32.ofNat x2)), .val (.int (Int32.ofNat x3)), .val (.ref b10), .val (.ref b23), .unset] [(.ref b23)])) _
    refine XS.iconst X31.here hx rfl (hb hby at_194) ?_
    show Steps p.tables e below (T31.setTop (mkF m 195 #[.val (.int p0), .val (.int p1), .val (.int p2), .val (.int p3), .val (.int p4), .val (.int p5), .val (.int (Int32.ofNat nN)), .val (.int (Int32.ofNat cN)), .val (.int (Int32.ofNat mN)), .val (.int (Int32.ofNat x0)), .val (.int (Int32.ofNat x1)), .val (.int (Int32.ofNat x2)), .val (.int (Int32.ofNat x3)), .val (.ref b10), .val (.ref b23), .unset] [(.int (3 : Int32)), (.ref b23)])) _
    refine XS.iload X31.here hx rfl (hb hby at_195) rfl ?_
    show Steps p.tables e below (T31.setTop (mkF m 197 #[.val (.int p0), .val (.int p1), .val (.int p2), .val (.int p3), .val (.int p4), .val (.int p5), .val (.int (Int32.ofNat nN)), .val (.int (Int32.ofNat cN)), .val (.int (Int32.ofNat mN)), .val (.int (Int32.ofNat x0)), .val (.int (Int32.ofNat x1)), .val (.int (Int32.ofNat x2)), .val (.int (Int32.ofNat x3)), .val (.ref b10), .val (.ref b23), .unset] [(.int (Int32.ofNat nN)), (.int (3 : Int32)), (.ref b23)])) _
    refine XS.iload X31.here hx rfl (hb hby at_197) rfl ?_
    show Steps p.tables e below (T31.setTop (mkF m 199 #[.val (.int p0), .val (.int p1), .val (.int p2), .val (.int p3), .val (.int p4), .val (.int p5), .val (.int (Int32.ofNat nN)), .val (.int (Int32.ofNat cN)), .val (.int (Int32.ofNat mN)), .val (.int (Int32.ofNat x0)), .val (.int (Int32.ofNat x1)), .val (.int (Int32.ofNat x2)), .val (.int (Int32.ofNat x3)), .val (.ref b10), .val (.ref b23), .unset] [(.int (Int32.ofNat cN)), (.int (Int32.ofNat nN)), (.int (3 : Int32)), (.ref b23)])) _
    refine XS.iload X31.here hx rfl (hb hby at_199) rfl ?_
    show Steps p.tables e below (T31.setTop (mkF m 201 #[.val (.int p0), .val (.int p1), .val (.int p2), .val (.int p3), .val (.int p4), .val (.int p5), .val (.int (Int32.ofNat nN)), .val (.int (Int32.ofNat cN)), .val (.int (Int32.ofNat mN)), .val (.int (Int32.ofNat x0)), .val (.int (Int32.ofNat x1)), .val (.int (Int32.ofNat x2)), .val (.int (Int32.ofNat x3)), .val (.ref b10), .val (.ref b23), .unset] [(.int (Int32.ofNat x0)), (.int (Int32.ofNat cN)), (.int (Int32.ofNat nN)), (.int (3 : Int32)), (.ref b23)])) _
    refine XS.iload X31.here hx rfl (hb hby at_201) rfl ?_
    show Steps p.tables e below (T31.setTop (mkF m 203 #[.val (.int p0), .val (.int p1), .val (.int p2), .val (.int p3), .val (.int p4), .val (.int p5), .val (.int (Int32.ofNat nN)), .val (.int (Int32.ofNat cN)), .val (.int (Int32.ofNat mN)), .val (.int (Int32.ofNat x0)), .val (.int (Int32.ofNat x1)), .val (.int (Int32.ofNat x2)), .val (.int (Int32.ofNat x3)), .val (.ref b10), .val (.ref b23), .unset] [(.int (Int32.ofNat x1)), (.int (Int32.ofNat x0)), (.int (Int32.ofNat cN)), (.int (Int32.ofNat nN)), (.int (3 : Int32)), (.ref b23)])) _
    refine XS.iload X31.here hx rfl (hb hby at_203) rfl ?_
    show Steps p.tables e below (T31.setTop (mkF m 205 #[.val (.int p0), .val (.int p1), .val (.int p2), .val (.int p3), .val (.int p4), .val (.int p5), .val (.int (Int32.ofNat nN)), .val (.int (Int32.ofNat cN)), .val (.int (Int32.ofNat mN)), .val (.int (Int32.ofNat x0)), .val (.int (Int32.ofNat x1)), .val (.int (Int32.ofNat x2)), .val (.int (Int32.ofNat x3)), .val (.ref b10), .val (.ref b23), .unset] [(.int (Int32.ofNat x2)), (.int (Int32.ofNat x1)), (.int (Int32.ofNat x0)), (.int (Int32.ofNat cN)), (.int (Int32.ofNat nN)), (.int (3 : Int32)), (.ref b23)])) _
    refine XS.iload X31.here hx rfl (hb hby at_205) rfl ?_
    show Steps p.tables e below (T31.setTop (mkF m 207 #[.val (.int p0), .val (.int p1), .val (.int p2), .val (.int p3), .val (.int p4), .val (.int p5), .val (.int (Int32.ofNat nN)), .val (.int (Int32.ofNat cN)), .val (.int (Int32.ofNat mN)), .val (.int (Int32.ofNat x0)), .val (.int (Int32.ofNat x1)), .val (.int (Int32.ofNat x2)), .val (.int (Int32.ofNat x3)), .val (.ref b10), .val (.ref b23), .unset] [(.int (Int32.ofNat x3)), (.int (Int32.ofNat x2)), (.int (Int32.ofNat x1)), (.int (Int32.ofNat x0)), (.int (Int32.ofNat cN)), (.int (Int32.ofNat nN)), (.int (3 : Int32)), (.ref b23)])) _
    exact k
  refine own_go k34 ?_
  clear k34
  obtain ⟨_, _, ⟨T33, L33, k33, n33⟩, -, X33, ⟨Lc33, hQ33, l33, y33, z33⟩, st33⟩ := Jvm.LawKit.callS X31 hx (y := (⟨"com/example/chronopath/chronopath/network/NetworkFirstSlotsPinLaw", "slot", "([IIIIIIII)Z"⟩ : MethodName)) hown (mvT hZ (hw _ (List.mem_of_getElem? (i := 6) rfl))) (mvT hZ (hw _ (List.mem_of_getElem? (i := 7) rfl))) (mvT hZ (hw _ (List.mem_of_getElem? (i := 8) rfl))) (mvT hZ (hw _ (List.mem_of_getElem? (i := 9) rfl))) (by decide) (backOf (W := 0) (own_rm_slot l Z a0 hw [] b23 3 nN cN (own_nn x0 x1 x2 x3) k23r T23.heap n0 Z23 hN4 hc4 (by decide) hxx V23) hZ (hw _ (List.mem_of_getElem? (i := 9) rfl)) (hw _ (List.mem_of_getElem? (i := 8) rfl)) (by decide) (by decide)) (g := (mkF m 207 #[.val (.int p0), .val (.int p1), .val (.int p2), .val (.int p3), .val (.int p4), .val (.int p5), .val (.int (Int32.ofNat nN)), .val (.int (Int32.ofNat cN)), .val (.int (Int32.ofNat mN)), .val (.int (Int32.ofNat x0)), .val (.int (Int32.ofNat x1)), .val (.int (Int32.ofNat x2)), .val (.int (Int32.ofNat x3)), .val (.ref b10), .val (.ref b23), .unset] [(.int (Int32.ofNat x3)), (.int (Int32.ofNat x2)), (.int (Int32.ofNat x1)), (.int (Int32.ofNat x0)), (.int (Int32.ofNat cN)), (.int (Int32.ofNat nN)), (.int (3 : Int32)), (.ref b23)])) rfl (by rw [hml]; rfl) (argsL := [(.ref b23), (.int (3 : Int32)), (.int (Int32.ofNat nN)), (.int (Int32.ofNat cN)), (.int (Int32.ofNat x0)), (.int (Int32.ofNat x1)), (.int (Int32.ofNat x2)), (.int (Int32.ofNat x3))]) (rest := []) (lenOf own_pd_285bIIIIIIII29Z rfl) rfl (by show 2 * 0 + _ ≤ _; exact Nat.le_of_eq rfl) (hb hby at_207) (fun _ _ => ⟨rfl, eh31, (by decide : 2 + 0 ≤ _), (by decide : 9 + 0 ≤ _)⟩)
  dsimp only [Pt.U, Pt.locs, Pt.cells, Pt.slots] at X33 l33 y33 z33 st33 hQ33
  subst l33 y33 z33
  obtain ⟨rfl, N33q, eh33⟩ := hQ33
  have N33 := Fr.app N31 N33q
  refine own_go st33 ?_
  have k36 : ∀ t, Steps p.tables e below (T33.setTop (mkF m 228 #[.val (.int p0), .val (.int p1), .val (.int p2), .val (.int p3), .val (.int p4), .val (.int p5), .val (.int (Int32.ofNat nN)), .val (.int (Int32.ofNat cN)), .val (.int (Int32.ofNat mN)), .val (.int (Int32.ofNat x0)), .val (.int (Int32.ofNat x1)), .val (.int (Int32.ofNat x2)), .val (.int (Int32.ofNat x3)), .val (.ref b10), .val (.ref b23), .unset] [(.int (Int32.ofNat x3)), (.int (Int32.ofNat x2)), (.int (Int32.ofNat x1)), (.int (Int32.ofNat x0)), (.int (Int32.ofNat cN)), (.int (Int32.ofNat nN)), (.int (4 : Int32)), (.ref b23)])) t → Steps p.tables e below (T33.setTop (mkF m 210 #[.val (.int p0), .val (.int p1), .val (.int p2), .val (.int p3), .val (.int p4), .val (.int p5), .val (.int (Int32.ofNat nN)), .val (.int (Int32.ofNat cN)), .val (.int (Int32.ofNat mN)), .val (.int (Int32.ofNat x0)), .val (.int (Int32.ofNat x1)), .val (.int (Int32.ofNat x2)), .val (.int (Int32.ofNat x3)), .val (.ref b10), .val (.ref b23), .unset] [(.int (1 : Int32))])) t := fun t k => by
    refine XS.ifNo X33.here hx rfl (hb hby at_210) rfl ((if0 _ _).trans (feq (by decide : ¬ ((1 : Int32) = (0 : Int32)))).1) ?_
    show Steps p.tables e below (T33.setTop (mkF m 213 #[.val (.int p0), .val (.int p1), .val (.int p2), .val (.int p3), .val (.int p4), .val (.int p5), .val (.int (Int32.ofNat nN)), .val (.int (Int32.ofNat cN)), .val (.int (Int32.ofNat mN)), .val (.int (Int32.ofNat x0)), .val (.int (Int32.ofNat x1)), .val (.int (Int32.ofNat x2)), .val (.int (Int32.ofNat x3)), .val (.ref b10), .val (.ref b23), .unset] [])) _
    refine XS.aload X33.here hx rfl (hb hby at_213) rfl rfl ?_
    show Steps p.tables e below (T33.setTop (mkF m 215 #[.val (.int p0), .val (.int p1), .val (.int p2), .val (.int p3), .val (.int p4), .val (.int p5), .val (.int (Int32.ofNat nN)), .val (.int (Int32.ofNat cN)), .val (.int (Int32.ofNat mN)), .val (.int (Int32.ofNat x0)), .val (.int (Int32.ofNat x1)), .val (.int (Int32.ofNat x2)), .val (.int (Int32.ofNat x3)), .val (.ref b10), .val (.ref b23), .unset] [(.ref b23)])) _
    refine XS.iconst X33.here hx rfl (hb hby at_215) ?_
    show Steps p.tables e below (T33.setTop (mkF m 216 #[.val (.int p0), .val (.int p1), .val (.int p2), .val (.int p3), .val (.int p4), .val (.int p5), .val (.int (Int32.ofNat nN)), .val (.int (Int32.ofNat cN)), .val (.int (Int32.ofNat mN)), .val (.int (Int32.ofNat x0)), .val (.int (Int32.ofNat x1)), .val (.int (Int32.ofNat x2)), .val (.int (Int32.ofNat x3)), .val (.ref b10), .val (.ref b23), .unset] [(.int (4 : Int32)), (.ref b23)])) _
    refine XS.iload X33.here hx rfl (hb hby at_216) rfl ?_
    show Steps p.tables e below (T33.setTop (mkF m 218 #[.val (.int p0), .val (.int p1), .val (.int p2), .val (.int p3), .val (.int p4), .val (.int p5), .val (.int (Int32.ofNat nN)), .val (.int (Int32.ofNat cN)), .val (.int (Int32.ofNat mN)), .val (.int (Int32.ofNat x0)), .val (.int (Int32.ofNat x1)), .val (.int (Int32.ofNat x2)), .val (.int (Int32.ofNat x3)), .val (.ref b10), .val (.ref b23), .unset] [(.int (Int32.ofNat nN)), (.int (4 : Int32)), (.ref b23)])) _
    refine XS.iload X33.here hx rfl (hb hby at_218) rfl ?_
    show Steps p.tables e below (T33.setTop (mkF m 220 #[.val (.int p0), .val (.int p1), .val (.int p2), .val (.int p3), .val (.int p4), .val (.int p5), .val (.int (Int32.ofNat nN)), .val (.int (Int32.ofNat cN)), .val (.int (Int32.ofNat mN)), .val (.int (Int32.ofNat x0)), .val (.int (Int32.ofNat x1)), .val (.int (Int32.ofNat x2)), .val (.int (Int32.ofNat x3)), .val (.ref b10), .val (.ref b23), .unset] [(.int (Int32.ofNat cN)), (.int (Int32.ofNat nN)), (.int (4 : Int32)), (.ref b23)])) _
    refine XS.iload X33.here hx rfl (hb hby at_220) rfl ?_
    show Steps p.tables e below (T33.setTop (mkF m 222 #[.val (.int p0), .val (.int p1), .val (.int p2), .val (.int p3), .val (.int p4), .val (.int p5), .val (.int (Int32.ofNat nN)), .val (.int (Int32.ofNat cN)), .val (.int (Int32.ofNat mN)), .val (.int (Int32.ofNat x0)), .val (.int (Int32.ofNat x1)), .val (.int (Int32.ofNat x2)), .val (.int (Int32.ofNat x3)), .val (.ref b10), .val (.ref b23), .unset] [(.int (Int32.ofNat x0)), (.int (Int32.ofNat cN)), (.int (Int32.ofNat nN)), (.int (4 : Int32)), (.ref b23)])) _
    refine XS.iload X33.here hx rfl (hb hby at_222) rfl ?_
    show Steps p.tables e below (T33.setTop (mkF m 224 #[.val (.int p0), .val (.int p1), .val (.int p2), .val (.int p3), .val (.int p4), .val (.int p5), .val (.int (Int32.ofNat nN)), .val (.int (Int32.ofNat cN)), .val (.int (Int32.ofNat mN)), .val (.int (Int32.ofNat x0)), .val (.int (Int32.ofNat x1)), .val (.int (Int32.ofNat x2)), .val (.int (Int32.ofNat x3)), .val (.ref b10), .val (.ref b23), .unset] [(.int (Int32.ofNat x1)), (.int (Int32.ofNat x0)), (.int (Int32.ofNat cN)), (.int (Int32.ofNat nN)), (.int (4 : Int32)), (.ref b23)])) _
    refine XS.iload X33.here hx rfl (hb hby at_224) rfl ?_
    show Steps p.tables e below (T33.setTop (mkF m 226 #[.val (.int p0), .val (.int p1), .val (.int p2), .val (.int p3), .val (.int p4), .val (.int p5), .val (.int (Int32.ofNat nN)), .val (.int (Int32.ofNat cN)), .val (.int (Int32.ofNat mN)), .val (.int (Int32.ofNat x0)), .val (.int (Int32.ofNat x1)), .val (.int (Int32.ofNat x2)), .val (.int (Int32.ofNat x3)), .val (.ref b10), .val (.ref b23), .unset] [(.int (Int32.ofNat x2)), (.int (Int32.ofNat x1)), (.int (Int32.ofNat x0)), (.int (Int32.ofNat cN)), (.int (Int32.ofNat nN)), (.int (4 : Int32)), (.ref b23)])) _
    refine XS.iload X33.here hx rfl (hb hby at_226) rfl ?_
    show Steps p.tables e below (T33.setTop (mkF m 228 #[.val (.int p0), .val (.int p1), .val (.int p2), .val (.int p3), .val (.int p4), .val (.int p5), .val (.int (Int32.ofNat nN)), .val (.int (Int32.ofNat cN)), .val (.int (Int32.ofNat mN)), .val (.int (Int32.ofNat x0)), .val (.int (Int32.ofNat x1)), .val (.int (Int32.ofNat x2)), .val (.int (Int32.ofNat x3)), .val (.ref b10), .val (.ref b23), .unset] [(.int (Int32.ofNat x3)), (.int (Int32.ofNat x2)), (.int (Int32.ofNat x1)), (.int (Int32.ofNat x0)), (.int (Int32.ofNat cN)), (.int (Int32.ofNat nN)), (.int (4 : Int32)), (.ref b23)])) _
    exact k
  refine own_go k36 ?_
  clear k36
  obtain ⟨_, _, ⟨T35, L35, k35, n35⟩, -, X35, ⟨Lc35, hQ35, l35, y35, z35⟩, st35⟩ := Jvm.LawKit.callS X33 hx (y := (⟨"com/example/chronopath/chronopath/network/NetworkFirstSlotsPinLaw", "slot", "([IIIIIIII)Z"⟩ : MethodName)) hown (mvT hZ (hw _ (List.mem_of_getElem? (i := 6) rfl))) (mvT hZ (hw _ (List.mem_of_getElem? (i := 7) rfl))) (mvT hZ (hw _ (List.mem_of_getElem? (i := 8) rfl))) (mvT hZ (hw _ (List.mem_of_getElem? (i := 9) rfl))) (by decide) (backOf (W := 0) (own_rm_slot l Z a0 hw [] b23 4 nN cN (own_nn x0 x1 x2 x3) k23r T23.heap n0 Z23 hN4 hc4 (by decide) hxx V23) hZ (hw _ (List.mem_of_getElem? (i := 9) rfl)) (hw _ (List.mem_of_getElem? (i := 8) rfl)) (by decide) (by decide)) (g := (mkF m 228 #[.val (.int p0), .val (.int p1), .val (.int p2), .val (.int p3), .val (.int p4), .val (.int p5), .val (.int (Int32.ofNat nN)), .val (.int (Int32.ofNat cN)), .val (.int (Int32.ofNat mN)), .val (.int (Int32.ofNat x0)), .val (.int (Int32.ofNat x1)), .val (.int (Int32.ofNat x2)), .val (.int (Int32.ofNat x3)), .val (.ref b10), .val (.ref b23), .unset] [(.int (Int32.ofNat x3)), (.int (Int32.ofNat x2)), (.int (Int32.ofNat x1)), (.int (Int32.ofNat x0)), (.int (Int32.ofNat cN)), (.int (Int32.ofNat nN)), (.int (4 : Int32)), (.ref b23)])) rfl (by rw [hml]; rfl) (argsL := [(.ref b23), (.int (4 : Int32)), (.int (Int32.ofNat nN)), (.int (Int32.ofNat cN)), (.int (Int32.ofNat x0)), (.int (Int32.ofNat x1)), (.int (Int32.ofNat x2)), (.int (Int32.ofNat x3))]) (rest := []) (lenOf own_pd_285bIIIIIIII29Z rfl) rfl (by show 2 * 0 + _ ≤ _; exact Nat.le_of_eq rfl) (hb hby at_228) (fun _ _ => ⟨rfl, eh33, (by decide : 2 + 0 ≤ _), (by decide : 9 + 0 ≤ _)⟩)
  dsimp only [Pt.U, Pt.locs, Pt.cells, Pt.slots] at X35 l35 y35 z35 st35 hQ35
  subst l35 y35 z35
  obtain ⟨rfl, N35q, eh35⟩ := hQ35
  have N35 := Fr.app N33 N35q
  refine own_go st35 ?_
  have k37 : ∀ t, Steps p.tables e below (T35.setTop (mkF m 249 #[.val (.int p0), .val (.int p1), .val (.int p2), .val (.int p3), .val (.int p4), .val (.int p5), .val (.int (Int32.ofNat nN)), .val (.int (Int32.ofNat cN)), .val (.int (Int32.ofNat mN)), .val (.int (Int32.ofNat x0)), .val (.int (Int32.ofNat x1)), .val (.int (Int32.ofNat x2)), .val (.int (Int32.ofNat x3)), .val (.ref b10), .val (.ref b23), .val (.int (1 : Int32))] [(.int (0 : Int32)), (.ref b10)])) t → Steps p.tables e below (T35.setTop (mkF m 231 #[.val (.int p0), .val (.int p1), .val (.int p2), .val (.int p3), .val (.int p4), .val (.int p5), .val (.int (Int32.ofNat nN)), .val (.int (Int32.ofNat cN)), .val (.int (Int32.ofNat mN)), .val (.int (Int32.ofNat x0)), .val (.int (Int32.ofNat x1)), .val (.int (Int32.ofNat x2)), .val (.int (Int32.ofNat x3)), .val (.ref b10), .val (.ref b23), .unset] [(.int (1 : Int32))])) t := fun t k => by
    refine XS.ifNo X35.here hx rfl (hb hby at_231) rfl ((if0 _ _).trans (feq (by decide : ¬ ((1 : Int32) = (0 : Int32)))).1) ?_
    show Steps p.tables e below (T35.setTop (mkF m 234 #[.val (.int p0), .val (.int p1), .val (.int p2), .val (.int p3), .val (.int p4), .val (.int p5), .val (.int (Int32.ofNat nN)), .val (.int (Int32.ofNat cN)), .val (.int (Int32.ofNat mN)), .val (.int (Int32.ofNat x0)), .val (.int (Int32.ofNat x1)), .val (.int (Int32.ofNat x2)), .val (.int (Int32.ofNat x3)), .val (.ref b10), .val (.ref b23), .unset] [])) _
    refine XS.iconst X35.here hx rfl (hb hby at_234) ?_
    show Steps p.tables e below (T35.setTop (mkF m 235 #[.val (.int p0), .val (.int p1), .val (.int p2), .val (.int p3), .val (.int p4), .val (.int p5), .val (.int (Int32.ofNat nN)), .val (.int (Int32.ofNat cN)), .val (.int (Int32.ofNat mN)), .val (.int (Int32.ofNat x0)), .val (.int (Int32.ofNat x1)), .val (.int (Int32.ofNat x2)), .val (.int (Int32.ofNat x3)), .val (.ref b10), .val (.ref b23), .unset] [(.int (1 : Int32))])) _
    refine XS.goto X35.here hx rfl (pc0 := 235) (pc' := 239) rfl (hb hby at_235) (by decide) (by decide) ?_
    show Steps p.tables e below (T35.setTop (mkF m 239 #[.val (.int p0), .val (.int p1), .val (.int p2), .val (.int p3), .val (.int p4), .val (.int p5), .val (.int (Int32.ofNat nN)), .val (.int (Int32.ofNat cN)), .val (.int (Int32.ofNat mN)), .val (.int (Int32.ofNat x0)), .val (.int (Int32.ofNat x1)), .val (.int (Int32.ofNat x2)), .val (.int (Int32.ofNat x3)), .val (.ref b10), .val (.ref b23), .unset] [(.int (1 : Int32))])) _
    refine XS.istore X35.here hx rfl (hb hby at_239) rfl (l' := #[.val (.int p0), .val (.int p1), .val (.int p2), .val (.int p3), .val (.int p4), .val (.int p5), .val (.int (Int32.ofNat nN)), .val (.int (Int32.ofNat cN)), .val (.int (Int32.ofNat mN)), .val (.int (Int32.ofNat x0)), .val (.int (Int32.ofNat x1)), .val (.int (Int32.ofNat x2)), .val (.int (Int32.ofNat x3)), .val (.ref b10), .val (.ref b23), .val (.int (1 : Int32))]) rfl ?_
    show Steps p.tables e below (T35.setTop (mkF m 241 #[.val (.int p0), .val (.int p1), .val (.int p2), .val (.int p3), .val (.int p4), .val (.int p5), .val (.int (Int32.ofNat nN)), .val (.int (Int32.ofNat cN)), .val (.int (Int32.ofNat mN)), .val (.int (Int32.ofNat x0)), .val (.int (Int32.ofNat x1)), .val (.int (Int32.ofNat x2)), .val (.int (Int32.ofNat x3)), .val (.ref b10), .val (.ref b23), .val (.int (1 : Int32))] [])) _
    refine XS.iload X35.here hx rfl (hb hby at_241) rfl ?_
    show Steps p.tables e below (T35.setTop (mkF m 243 #[.val (.int p0), .val (.int p1), .val (.int p2), .val (.int p3), .val (.int p4), .val (.int p5), .val (.int (Int32.ofNat nN)), .val (.int (Int32.ofNat cN)), .val (.int (Int32.ofNat mN)), .val (.int (Int32.ofNat x0)), .val (.int (Int32.ofNat x1)), .val (.int (Int32.ofNat x2)), .val (.int (Int32.ofNat x3)), .val (.ref b10), .val (.ref b23), .val (.int (1 : Int32))] [(.int (1 : Int32))])) _
    refine XS.ifNo X35.here hx rfl (hb hby at_243) rfl ((if0 _ _).trans (feq (by decide : ¬ ((1 : Int32) = (0 : Int32)))).1) ?_
    show Steps p.tables e below (T35.setTop (mkF m 246 #[.val (.int p0), .val (.int p1), .val (.int p2), .val (.int p3), .val (.int p4), .val (.int p5), .val (.int (Int32.ofNat nN)), .val (.int (Int32.ofNat cN)), .val (.int (Int32.ofNat mN)), .val (.int (Int32.ofNat x0)), .val (.int (Int32.ofNat x1)), .val (.int (Int32.ofNat x2)), .val (.int (Int32.ofNat x3)), .val (.ref b10), .val (.ref b23), .val (.int (1 : Int32))] [])) _
    refine XS.aload X35.here hx rfl (hb hby at_246) rfl rfl ?_
    show Steps p.tables e below (T35.setTop (mkF m 248 #[.val (.int p0), .val (.int p1), .val (.int p2), .val (.int p3), .val (.int p4), .val (.int p5), .val (.int (Int32.ofNat nN)), .val (.int (Int32.ofNat cN)), .val (.int (Int32.ofNat mN)), .val (.int (Int32.ofNat x0)), .val (.int (Int32.ofNat x1)), .val (.int (Int32.ofNat x2)), .val (.int (Int32.ofNat x3)), .val (.ref b10), .val (.ref b23), .val (.int (1 : Int32))] [(.ref b10)])) _
    refine XS.iconst X35.here hx rfl (hb hby at_248) ?_
    show Steps p.tables e below (T35.setTop (mkF m 249 #[.val (.int p0), .val (.int p1), .val (.int p2), .val (.int p3), .val (.int p4), .val (.int p5), .val (.int (Int32.ofNat nN)), .val (.int (Int32.ofNat cN)), .val (.int (Int32.ofNat mN)), .val (.int (Int32.ofNat x0)), .val (.int (Int32.ofNat x1)), .val (.int (Int32.ofNat x2)), .val (.int (Int32.ofNat x3)), .val (.ref b10), .val (.ref b23), .val (.int (1 : Int32))] [(.int (0 : Int32)), (.ref b10)])) _
    exact k
  refine own_go k37 ?_
  clear k37
  obtain ⟨cl38, Ar38, -, S38, -, H38, -⟩ := id (f23_2)
  have hi38 : ¬ ((0 : Int32) < 0 ∨ cl38.slots.size ≤ ((0 : Int32)).toNatClampNeg) := inb_of S38 ⟨by decide, by decide⟩
  have hv38 : cl38.slots[((0 : Int32)).toNatClampNeg]? = some (.int (Int32.ofNat x0)) := H38.at hi38 rfl
  have k39 : ∀ t, Steps p.tables e below (T35.setTop (mkF m 258 #[.val (.int p0), .val (.int p1), .val (.int p2), .val (.int p3), .val (.int p4), .val (.int p5), .val (.int (Int32.ofNat nN)), .val (.int (Int32.ofNat cN)), .val (.int (Int32.ofNat mN)), .val (.int (Int32.ofNat x0)), .val (.int (Int32.ofNat x1)), .val (.int (Int32.ofNat x2)), .val (.int (Int32.ofNat x3)), .val (.ref b10), .val (.ref b23), .val (.int (1 : Int32))] [(.int (1 : Int32)), (.ref b10)])) t → Steps p.tables e below (T35.setTop (mkF m 249 #[.val (.int p0), .val (.int p1), .val (.int p2), .val (.int p3), .val (.int p4), .val (.int p5), .val (.int (Int32.ofNat nN)), .val (.int (Int32.ofNat cN)), .val (.int (Int32.ofNat mN)), .val (.int (Int32.ofNat x0)), .val (.int (Int32.ofNat x1)), .val (.int (Int32.ofNat x2)), .val (.int (Int32.ofNat x3)), .val (.ref b10), .val (.ref b23), .val (.int (1 : Int32))] [(.int (0 : Int32)), (.ref b10)])) t := fun t k => by
    refine X35.iaload hx (j := (0 : Int32)) (v := (.int (Int32.ofNat x0))) (by rw [eh35]; exact Ar38.1) (State.isArrayOf_alike hZ.alike Ar38.2.1) Ar38.2.2 hi38 hv38 (g := (mkF m 249 #[.val (.int p0), .val (.int p1), .val (.int p2), .val (.int p3), .val (.int p4), .val (.int p5), .val (.int (Int32.ofNat nN)), .val (.int (Int32.ofNat cN)), .val (.int (Int32.ofNat mN)), .val (.int (Int32.ofNat x0)), .val (.int (Int32.ofNat x1)), .val (.int (Int32.ofNat x2)), .val (.int (Int32.ofNat x3)), .val (.ref b10), .val (.ref b23), .val (.int (1 : Int32))] [(.int (0 : Int32)), (.ref b10)])) rfl rfl (hb hby at_249) _ ?_
    show Steps p.tables e below (T35.setTop (mkF m 250 #[.val (.int p0), .val (.int p1), .val (.int p2), .val (.int p3), .val (.int p4), .val (.int p5), .val (.int (Int32.ofNat nN)), .val (.int (Int32.ofNat cN)), .val (.int (Int32.ofNat mN)), .val (.int (Int32.ofNat x0)), .val (.int (Int32.ofNat x1)), .val (.int (Int32.ofNat x2)), .val (.int (Int32.ofNat x3)), .val (.ref b10), .val (.ref b23), .val (.int (1 : Int32))] [(.int (Int32.ofNat x0))])) _
    refine XS.iload X35.here hx rfl (hb hby at_250) rfl ?_
    show Steps p.tables e below (T35.setTop (mkF m 252 #[.val (.int p0), .val (.int p1), .val (.int p2), .val (.int p3), .val (.int p4), .val (.int p5), .val (.int (Int32.ofNat nN)), .val (.int (Int32.ofNat cN)), .val (.int (Int32.ofNat mN)), .val (.int (Int32.ofNat x0)), .val (.int (Int32.ofNat x1)), .val (.int (Int32.ofNat x2)), .val (.int (Int32.ofNat x3)), .val (.ref b10), .val (.ref b23), .val (.int (1 : Int32))] [(.int (Int32.ofNat x0)), (.int (Int32.ofNat x0))])) _
    refine XS.icmpNo X35.here hx rfl (hb hby at_252) rfl (teq (rfl : (Int32.ofNat x0) = (Int32.ofNat x0))).2 ?_
    show Steps p.tables e below (T35.setTop (mkF m 255 #[.val (.int p0), .val (.int p1), .val (.int p2), .val (.int p3), .val (.int p4), .val (.int p5), .val (.int (Int32.ofNat nN)), .val (.int (Int32.ofNat cN)), .val (.int (Int32.ofNat mN)), .val (.int (Int32.ofNat x0)), .val (.int (Int32.ofNat x1)), .val (.int (Int32.ofNat x2)), .val (.int (Int32.ofNat x3)), .val (.ref b10), .val (.ref b23), .val (.int (1 : Int32))] [])) _
    refine XS.aload X35.here hx rfl (hb hby at_255) rfl rfl ?_
    show Steps p.tables e below (T35.setTop (mkF m 257 #[.val (.int p0), .val (.int p1), .val (.int p2), .val (.int p3), .val (.int p4), .val (.int p5), .val (.int (Int32.ofNat nN)), .val (.int (Int32.ofNat cN)), .val (.int (Int32.ofNat mN)), .val (.int (Int32.ofNat x0)), .val (.int (Int32.ofNat x1)), .val (.int (Int32.ofNat x2)), .val (.int (Int32.ofNat x3)), .val (.ref b10), .val (.ref b23), .val (.int (1 : Int32))] [(.ref b10)])) _
    refine XS.iconst X35.here hx rfl (hb hby at_257) ?_
    show Steps p.tables e below (T35.setTop (mkF m 258 #[.val (.int p0), .val (.int p1), .val (.int p2), .val (.int p3), .val (.int p4), .val (.int p5), .val (.int (Int32.ofNat nN)), .val (.int (Int32.ofNat cN)), .val (.int (Int32.ofNat mN)), .val (.int (Int32.ofNat x0)), .val (.int (Int32.ofNat x1)), .val (.int (Int32.ofNat x2)), .val (.int (Int32.ofNat x3)), .val (.ref b10), .val (.ref b23), .val (.int (1 : Int32))] [(.int (1 : Int32)), (.ref b10)])) _
    exact k
  refine own_go k39 ?_
  clear k39
  obtain ⟨cl40, Ar40, -, S40, -, H40, -⟩ := id (f23_2)
  have hi40 : ¬ ((1 : Int32) < 0 ∨ cl40.slots.size ≤ ((1 : Int32)).toNatClampNeg) := inb_of S40 ⟨by decide, by decide⟩
  have hv40 : cl40.slots[((1 : Int32)).toNatClampNeg]? = some (.int (Int32.ofNat x1)) := H40.at hi40 rfl
  have k41 : ∀ t, Steps p.tables e below (T35.setTop (mkF m 267 #[.val (.int p0), .val (.int p1), .val (.int p2), .val (.int p3), .val (.int p4), .val (.int p5), .val (.int (Int32.ofNat nN)), .val (.int (Int32.ofNat cN)), .val (.int (Int32.ofNat mN)), .val (.int (Int32.ofNat x0)), .val (.int (Int32.ofNat x1)), .val (.int (Int32.ofNat x2)), .val (.int (Int32.ofNat x3)), .val (.ref b10), .val (.ref b23), .val (.int (1 : Int32))] [(.int (2 : Int32)), (.ref b10)])) t → Steps p.tables e below (T35.setTop (mkF m 258 #[.val (.int p0), .val (.int p1), .val (.int p2), .val (.int p3), .val (.int p4), .val (.int p5), .val (.int (Int32.ofNat nN)), .val (.int (Int32.ofNat cN)), .val (.int (Int32.ofNat mN)), .val (.int (Int32.ofNat x0)), .val (.int (Int32.ofNat x1)), .val (.int (Int32.ofNat x2)), .val (.int (Int32.ofNat x3)), .val (.ref b10), .val (.ref b23), .val (.int (1 : Int32))] [(.int (1 : Int32)), (.ref b10)])) t := fun t k => by
    refine X35.iaload hx (j := (1 : Int32)) (v := (.int (Int32.ofNat x1))) (by rw [eh35]; exact Ar40.1) (State.isArrayOf_alike hZ.alike Ar40.2.1) Ar40.2.2 hi40 hv40 (g := (mkF m 258 #[.val (.int p0), .val (.int p1), .val (.int p2), .val (.int p3), .val (.int p4), .val (.int p5), .val (.int (Int32.ofNat nN)), .val (.int (Int32.ofNat cN)), .val (.int (Int32.ofNat mN)), .val (.int (Int32.ofNat x0)), .val (.int (Int32.ofNat x1)), .val (.int (Int32.ofNat x2)), .val (.int (Int32.ofNat x3)), .val (.ref b10), .val (.ref b23), .val (.int (1 : Int32))] [(.int (1 : Int32)), (.ref b10)])) rfl rfl (hb hby at_258) _ ?_
    show Steps p.tables e below (T35.setTop (mkF m 259 #[.val (.int p0), .val (.int p1), .val (.int p2), .val (.int p3), .val (.int p4), .val (.int p5), .val (.int (Int32.ofNat nN)), .val (.int (Int32.ofNat cN)), .val (.int (Int32.ofNat mN)), .val (.int (Int32.ofNat x0)), .val (.int (Int32.ofNat x1)), .val (.int (Int32.ofNat x2)), .val (.int (Int32.ofNat x3)), .val (.ref b10), .val (.ref b23), .val (.int (1 : Int32))] [(.int (Int32.ofNat x1))])) _
    refine XS.iload X35.here hx rfl (hb hby at_259) rfl ?_
    show Steps p.tables e below (T35.setTop (mkF m 261 #[.val (.int p0), .val (.int p1), .val (.int p2), .val (.int p3), .val (.int p4), .val (.int p5), .val (.int (Int32.ofNat nN)), .val (.int (Int32.ofNat cN)), .val (.int (Int32.ofNat mN)), .val (.int (Int32.ofNat x0)), .val (.int (Int32.ofNat x1)), .val (.int (Int32.ofNat x2)), .val (.int (Int32.ofNat x3)), .val (.ref b10), .val (.ref b23), .val (.int (1 : Int32))] [(.int (Int32.ofNat x1)), (.int (Int32.ofNat x1))])) _
    refine XS.icmpNo X35.here hx rfl (hb hby at_261) rfl (teq (rfl : (Int32.ofNat x1) = (Int32.ofNat x1))).2 ?_
    show Steps p.tables e below (T35.setTop (mkF m 264 #[.val (.int p0), .val (.int p1), .val (.int p2), .val (.int p3), .val (.int p4), .val (.int p5), .val (.int (Int32.ofNat nN)), .val (.int (Int32.ofNat cN)), .val (.int (Int32.ofNat mN)), .val (.int (Int32.ofNat x0)), .val (.int (Int32.ofNat x1)), .val (.int (Int32.ofNat x2)), .val (.int (Int32.ofNat x3)), .val (.ref b10), .val (.ref b23), .val (.int (1 : Int32))] [])) _
    refine XS.aload X35.here hx rfl (hb hby at_264) rfl rfl ?_
    show Steps p.tables e below (T35.setTop (mkF m 266 #[.val (.int p0), .val (.int p1), .val (.int p2), .val (.int p3), .val (.int p4), .val (.int p5), .val (.int (Int32.ofNat nN)), .val (.int (Int32.ofNat cN)), .val (.int (Int32.ofNat mN)), .val (.int (Int32.ofNat x0)), .val (.int (Int32.ofNat x1)), .val (.int (Int32.ofNat x2)), .val (.int (Int32.ofNat x3)), .val (.ref b10), .val (.ref b23), .val (.int (1 : Int32))] [(.ref b10)])) _
    refine XS.iconst X35.here hx rfl (hb hby at_266) ?_
    show Steps p.tables e below (T35.setTop (mkF m 267 #[.val (.int p0), .val (.int p1), .val (.int p2), .val (.int p3), .val (.int p4), .val (.int p5), .val (.int (Int32.ofNat nN)), .val (.int (Int32.ofNat cN)), .val (.int (Int32.ofNat mN)), .val (.int (Int32.ofNat x0)), .val (.int (Int32.ofNat x1)), .val (.int (Int32.ofNat x2)), .val (.int (Int32.ofNat x3)), .val (.ref b10), .val (.ref b23), .val (.int (1 : Int32))] [(.int (2 : Int32)), (.ref b10)])) _
    exact k
  refine own_go k41 ?_
  clear k41
  obtain ⟨cl42, Ar42, -, S42, -, H42, -⟩ := id (f23_2)
  have hi42 : ¬ ((2 : Int32) < 0 ∨ cl42.slots.size ≤ ((2 : Int32)).toNatClampNeg) := inb_of S42 ⟨by decide, by decide⟩
  have hv42 : cl42.slots[((2 : Int32)).toNatClampNeg]? = some (.int (Int32.ofNat x2)) := H42.at hi42 rfl
  have k43 : ∀ t, Steps p.tables e below (T35.setTop (mkF m 276 #[.val (.int p0), .val (.int p1), .val (.int p2), .val (.int p3), .val (.int p4), .val (.int p5), .val (.int (Int32.ofNat nN)), .val (.int (Int32.ofNat cN)), .val (.int (Int32.ofNat mN)), .val (.int (Int32.ofNat x0)), .val (.int (Int32.ofNat x1)), .val (.int (Int32.ofNat x2)), .val (.int (Int32.ofNat x3)), .val (.ref b10), .val (.ref b23), .val (.int (1 : Int32))] [(.int (3 : Int32)), (.ref b10)])) t → Steps p.tables e below (T35.setTop (mkF m 267 #[.val (.int p0), .val (.int p1), .val (.int p2), .val (.int p3), .val (.int p4), .val (.int p5), .val (.int (Int32.ofNat nN)), .val (.int (Int32.ofNat cN)), .val (.int (Int32.ofNat mN)), .val (.int (Int32.ofNat x0)), .val (.int (Int32.ofNat x1)), .val (.int (Int32.ofNat x2)), .val (.int (Int32.ofNat x3)), .val (.ref b10), .val (.ref b23), .val (.int (1 : Int32))] [(.int (2 : Int32)), (.ref b10)])) t := fun t k => by
    refine X35.iaload hx (j := (2 : Int32)) (v := (.int (Int32.ofNat x2))) (by rw [eh35]; exact Ar42.1) (State.isArrayOf_alike hZ.alike Ar42.2.1) Ar42.2.2 hi42 hv42 (g := (mkF m 267 #[.val (.int p0), .val (.int p1), .val (.int p2), .val (.int p3), .val (.int p4), .val (.int p5), .val (.int (Int32.ofNat nN)), .val (.int (Int32.ofNat cN)), .val (.int (Int32.ofNat mN)), .val (.int (Int32.ofNat x0)), .val (.int (Int32.ofNat x1)), .val (.int (Int32.ofNat x2)), .val (.int (Int32.ofNat x3)), .val (.ref b10), .val (.ref b23), .val (.int (1 : Int32))] [(.int (2 : Int32)), (.ref b10)])) rfl rfl (hb hby at_267) _ ?_
    show Steps p.tables e below (T35.setTop (mkF m 268 #[.val (.int p0), .val (.int p1), .val (.int p2), .val (.int p3), .val (.int p4), .val (.int p5), .val (.int (Int32.ofNat nN)), .val (.int (Int32.ofNat cN)), .val (.int (Int32.ofNat mN)), .val (.int (Int32.ofNat x0)), .val (.int (Int32.ofNat x1)), .val (.int (Int32.ofNat x2)), .val (.int (Int32.ofNat x3)), .val (.ref b10), .val (.ref b23), .val (.int (1 : Int32))] [(.int (Int32.ofNat x2))])) _
    refine XS.iload X35.here hx rfl (hb hby at_268) rfl ?_
    show Steps p.tables e below (T35.setTop (mkF m 270 #[.val (.int p0), .val (.int p1), .val (.int p2), .val (.int p3), .val (.int p4), .val (.int p5), .val (.int (Int32.ofNat nN)), .val (.int (Int32.ofNat cN)), .val (.int (Int32.ofNat mN)), .val (.int (Int32.ofNat x0)), .val (.int (Int32.ofNat x1)), .val (.int (Int32.ofNat x2)), .val (.int (Int32.ofNat x3)), .val (.ref b10), .val (.ref b23), .val (.int (1 : Int32))] [(.int (Int32.ofNat x2)), (.int (Int32.ofNat x2))])) _
    refine XS.icmpNo X35.here hx rfl (hb hby at_270) rfl (teq (rfl : (Int32.ofNat x2) = (Int32.ofNat x2))).2 ?_
    show Steps p.tables e below (T35.setTop (mkF m 273 #[.val (.int p0), .val (.int p1), .val (.int p2), .val (.int p3), .val (.int p4), .val (.int p5), .val (.int (Int32.ofNat nN)), .val (.int (Int32.ofNat cN)), .val (.int (Int32.ofNat mN)), .val (.int (Int32.ofNat x0)), .val (.int (Int32.ofNat x1)), .val (.int (Int32.ofNat x2)), .val (.int (Int32.ofNat x3)), .val (.ref b10), .val (.ref b23), .val (.int (1 : Int32))] [])) _
    refine XS.aload X35.here hx rfl (hb hby at_273) rfl rfl ?_
    show Steps p.tables e below (T35.setTop (mkF m 275 #[.val (.int p0), .val (.int p1), .val (.int p2), .val (.int p3), .val (.int p4), .val (.int p5), .val (.int (Int32.ofNat nN)), .val (.int (Int32.ofNat cN)), .val (.int (Int32.ofNat mN)), .val (.int (Int32.ofNat x0)), .val (.int (Int32.ofNat x1)), .val (.int (Int32.ofNat x2)), .val (.int (Int32.ofNat x3)), .val (.ref b10), .val (.ref b23), .val (.int (1 : Int32))] [(.ref b10)])) _
    refine XS.iconst X35.here hx rfl (hb hby at_275) ?_
    show Steps p.tables e below (T35.setTop (mkF m 276 #[.val (.int p0), .val (.int p1), .val (.int p2), .val (.int p3), .val (.int p4), .val (.int p5), .val (.int (Int32.ofNat nN)), .val (.int (Int32.ofNat cN)), .val (.int (Int32.ofNat mN)), .val (.int (Int32.ofNat x0)), .val (.int (Int32.ofNat x1)), .val (.int (Int32.ofNat x2)), .val (.int (Int32.ofNat x3)), .val (.ref b10), .val (.ref b23), .val (.int (1 : Int32))] [(.int (3 : Int32)), (.ref b10)])) _
    exact k
  refine own_go k43 ?_
  clear k43
  obtain ⟨cl44, Ar44, -, S44, -, H44, -⟩ := id (f23_2)
  have hi44 : ¬ ((3 : Int32) < 0 ∨ cl44.slots.size ≤ ((3 : Int32)).toNatClampNeg) := inb_of S44 ⟨by decide, by decide⟩
  have hv44 : cl44.slots[((3 : Int32)).toNatClampNeg]? = some (.int (Int32.ofNat x3)) := H44.at hi44 rfl
  have k45 : ∀ t, Steps p.tables e below (T35.setTop (mkF m 287 #[.val (.int p0), .val (.int p1), .val (.int p2), .val (.int p3), .val (.int p4), .val (.int p5), .val (.int (Int32.ofNat nN)), .val (.int (Int32.ofNat cN)), .val (.int (Int32.ofNat mN)), .val (.int (Int32.ofNat x0)), .val (.int (Int32.ofNat x1)), .val (.int (Int32.ofNat x2)), .val (.int (Int32.ofNat x3)), .val (.ref b10), .val (.ref b23), .val (.int (1 : Int32))] [(.int (1 : Int32))])) t → Steps p.tables e below (T35.setTop (mkF m 276 #[.val (.int p0), .val (.int p1), .val (.int p2), .val (.int p3), .val (.int p4), .val (.int p5), .val (.int (Int32.ofNat nN)), .val (.int (Int32.ofNat cN)), .val (.int (Int32.ofNat mN)), .val (.int (Int32.ofNat x0)), .val (.int (Int32.ofNat x1)), .val (.int (Int32.ofNat x2)), .val (.int (Int32.ofNat x3)), .val (.ref b10), .val (.ref b23), .val (.int (1 : Int32))] [(.int (3 : Int32)), (.ref b10)])) t := fun t k => by
    refine X35.iaload hx (j := (3 : Int32)) (v := (.int (Int32.ofNat x3))) (by rw [eh35]; exact Ar44.1) (State.isArrayOf_alike hZ.alike Ar44.2.1) Ar44.2.2 hi44 hv44 (g := (mkF m 276 #[.val (.int p0), .val (.int p1), .val (.int p2), .val (.int p3), .val (.int p4), .val (.int p5), .val (.int (Int32.ofNat nN)), .val (.int (Int32.ofNat cN)), .val (.int (Int32.ofNat mN)), .val (.int (Int32.ofNat x0)), .val (.int (Int32.ofNat x1)), .val (.int (Int32.ofNat x2)), .val (.int (Int32.ofNat x3)), .val (.ref b10), .val (.ref b23), .val (.int (1 : Int32))] [(.int (3 : Int32)), (.ref b10)])) rfl rfl (hb hby at_276) _ ?_
    show Steps p.tables e below (T35.setTop (mkF m 277 #[.val (.int p0), .val (.int p1), .val (.int p2), .val (.int p3), .val (.int p4), .val (.int p5), .val (.int (Int32.ofNat nN)), .val (.int (Int32.ofNat cN)), .val (.int (Int32.ofNat mN)), .val (.int (Int32.ofNat x0)), .val (.int (Int32.ofNat x1)), .val (.int (Int32.ofNat x2)), .val (.int (Int32.ofNat x3)), .val (.ref b10), .val (.ref b23), .val (.int (1 : Int32))] [(.int (Int32.ofNat x3))])) _
    refine XS.iload X35.here hx rfl (hb hby at_277) rfl ?_
    show Steps p.tables e below (T35.setTop (mkF m 279 #[.val (.int p0), .val (.int p1), .val (.int p2), .val (.int p3), .val (.int p4), .val (.int p5), .val (.int (Int32.ofNat nN)), .val (.int (Int32.ofNat cN)), .val (.int (Int32.ofNat mN)), .val (.int (Int32.ofNat x0)), .val (.int (Int32.ofNat x1)), .val (.int (Int32.ofNat x2)), .val (.int (Int32.ofNat x3)), .val (.ref b10), .val (.ref b23), .val (.int (1 : Int32))] [(.int (Int32.ofNat x3)), (.int (Int32.ofNat x3))])) _
    refine XS.icmpNo X35.here hx rfl (hb hby at_279) rfl (teq (rfl : (Int32.ofNat x3) = (Int32.ofNat x3))).2 ?_
    show Steps p.tables e below (T35.setTop (mkF m 282 #[.val (.int p0), .val (.int p1), .val (.int p2), .val (.int p3), .val (.int p4), .val (.int p5), .val (.int (Int32.ofNat nN)), .val (.int (Int32.ofNat cN)), .val (.int (Int32.ofNat mN)), .val (.int (Int32.ofNat x0)), .val (.int (Int32.ofNat x1)), .val (.int (Int32.ofNat x2)), .val (.int (Int32.ofNat x3)), .val (.ref b10), .val (.ref b23), .val (.int (1 : Int32))] [])) _
    refine XS.iconst X35.here hx rfl (hb hby at_282) ?_
    show Steps p.tables e below (T35.setTop (mkF m 283 #[.val (.int p0), .val (.int p1), .val (.int p2), .val (.int p3), .val (.int p4), .val (.int p5), .val (.int (Int32.ofNat nN)), .val (.int (Int32.ofNat cN)), .val (.int (Int32.ofNat mN)), .val (.int (Int32.ofNat x0)), .val (.int (Int32.ofNat x1)), .val (.int (Int32.ofNat x2)), .val (.int (Int32.ofNat x3)), .val (.ref b10), .val (.ref b23), .val (.int (1 : Int32))] [(.int (1 : Int32))])) _
    refine XS.goto X35.here hx rfl (pc0 := 283) (pc' := 287) rfl (hb hby at_283) (by decide) (by decide) ?_
    show Steps p.tables e below (T35.setTop (mkF m 287 #[.val (.int p0), .val (.int p1), .val (.int p2), .val (.int p3), .val (.int p4), .val (.int p5), .val (.int (Int32.ofNat nN)), .val (.int (Int32.ofNat cN)), .val (.int (Int32.ofNat mN)), .val (.int (Int32.ofNat x0)), .val (.int (Int32.ofNat x1)), .val (.int (Int32.ofNat x2)), .val (.int (Int32.ofNat x3)), .val (.ref b10), .val (.ref b23), .val (.int (1 : Int32))] [(.int (1 : Int32))])) _
    exact k
  refine own_go k45 ?_
  clear k45
  obtain ⟨fs, hr, hrun, hended, hW, hsame⟩ := X35.leave (v := some (.int (nar .boolean (1 : Int32)))) (fun h => by rw [Bd.returns] at h; cases h)
  refine ⟨_, _, retN X35 hx (t := .boolean) Bd.returns (by simp) (hb hby at_287) hr, hPf _ _ ⟨hrun, hended, _, _, rfl, ?_, ⟨_, rfl⟩, hW, hsame.mono (by decide) (by decide)⟩⟩
  show own_Q_law Z p0 p1 p2 p3 p4 p5 h0 n0 _ T35.heap _
  rw [eh35]
  exact ⟨rfl, N35⟩
set_option maxRecDepth 65536 in
set_option maxHeartbeats 40000000 in
theorem own_comes {Post : Tables → Env → Array Value → State → Outcome → State → Prop} (hpost : ∀ tb e args s v u, (limb_1_1.after args s (.returned v) u = true ∧ limb_1_2.after args s (.returned v) u = true ∧ True) → FrameEnd s (.returned v) u (Jvm.fieldLocs frame_1_writes args s ++ Jvm.arrayLocs frame_1_arrays args s ++ Jvm.staticLocs frame_1_statics s) 16 128 → Post tb e args s (.returned v) u) :
    ArmFor flags0 classFile x code maxLocals ret World_1 tables_1 room_1 Calls_1 rest_1 Pre_1 Post := by
  intro l hfl _ _ p e ha hc hk s m args below hf hA hF happ hP
  obtain ⟨hcalls, hrest, hpre⟩ := hP
  obtain ⟨-, -, -, hnamed, -, -, -, hat⟩ := (Spec.applies_iff hf).mp happ
  obtain ⟨hg, hn⟩ := and_e (Cond.before_iff.mp (show (Jvm.Cond.and given_1 narrow_1).before args s = true from hpre))
  obtain ⟨hg1a, hg1b⟩ := and_e hg
  obtain ⟨hg2a, hg2b⟩ := and_e hg1b
  obtain ⟨hg3a, hg3b⟩ := and_e hg2b
  obtain ⟨hg4a, hg4b⟩ := and_e hg3b
  obtain ⟨hg5a, hg5b⟩ := and_e hg4b
  obtain ⟨hg6a, hg6b⟩ := and_e hg5b
  obtain ⟨w0, w1, w2, w3, w4, w5, rfl⟩ : ∃ w0 w1 w2 w3 w4 w5 : Value, args = #[w0, w1, w2, w3, w4, w5] := by
    have hs : args.size = 6 := by simpa [Cond.value, given_1] using hg1a
    obtain ⟨L⟩ := args
    match L, hs with
    | [w0, w1, w2, w3, w4, w5], _ => exact ⟨w0, w1, w2, w3, w4, w5, rfl⟩
  have hw := fun d (hd : d ∈ tables_1) => atoms_spec (ws := Jvm.Cond.code x code maxLocals ret :: tables_1) hat d (List.mem_cons_of_mem _ hd)
  have hfit : Fit s := fun {y c} hc i hi => by
    obtain ⟨ha, rfl⟩ := Array.getElem?_eq_some_iff.mp hc
    have q := List.all_eq_true.mp ((Array.all_eq_true_iff_forall_mem.mp hF) _ (Array.getElem_mem ha)) i (List.mem_range.mpr hi)
    simpa [Array.getElem?_eq_getElem hi] using q
  obtain ⟨i0, ei0⟩ := is_v hg2a
  obtain rfl : w0 = (.int i0) := Option.some.inj ei0
  obtain ⟨i1, ei1⟩ := is_v hg3a
  obtain rfl : w1 = (.int i1) := Option.some.inj ei1
  obtain ⟨i2, ei2⟩ := is_v hg4a
  obtain rfl : w2 = (.int i2) := Option.some.inj ei2
  obtain ⟨i3, ei3⟩ := is_v hg5a
  obtain rfl : w3 = (.int i3) := Option.some.inj ei3
  obtain ⟨i4, ei4⟩ := is_v hg6a
  obtain rfl : w4 = (.int i4) := Option.some.inj ei4
  obtain ⟨i5, ei5⟩ := is_v hg6b
  obtain rfl : w5 = (.int i5) := Option.some.inj ei5
  obtain ⟨n, o, h1, h2, h3, _, L, rfl, ⟨rfl, N⟩, hq⟩ := own_rm_law l s _ hw tables_1 i0 i1 i2 i3 i4 i5 s.heap s.heap.size (Nat.le_refl _) p e ha hc hk s m _ below hf ((Spec.applies_iff_loose hf).mp happ).1 ⟨rfl, State.Warmed39.refl s, rfl⟩ trivial
  refine ⟨n, _, h1, h2, h3, hpost _ _ _ _ _ _ ⟨Cond.after_iff.mpr rfl, Cond.after_iff.mpr (eq_i res_at (Term.int_eval (1)) rfl), trivial⟩ ⟨hq.1, hq.2.1, (hq.2.2.sift fun y hy => Or.inr (N y hy)).mono (by decide) (by decide)⟩⟩
theorem main_1_1 : Claimed_1_1 := own_comes fun _ _ _ _ _ _ h hF => ⟨h.1, hF⟩
theorem main_1_2 : Claimed_1_2 := own_comes fun _ _ _ _ _ _ h hF => ⟨h.2.1, hF⟩
end Jvm.Pilot.@@N@@
namespace Jvm.Pilot.@@N@@
open Jvm Jvm.ClassFile Sem Op Lib Jvm.Free Jvm.Stand Jvm.Pilot.@@N@@.Jvm.D
/-! MADE BY PROGRAM (witnessworld.py) out of the Statement's table words and the real class files: 10 classes; the members and pool entries that the words name. The judged class is class 1, her method 1. -/
namespace start1
open Jvm.ClassFile
def u (s : String) : CpInfo := .utf8 (stringToUtf16 s)
/-- a pool by its gaps: so many unusable entries, then the entry; so many at the end -/
def gap : Nat → List CpInfo → List CpInfo
  | 0, r => r
  | n + 1, r => .unusable :: gap n r
def poolList (es : List (Nat × CpInfo)) (last : Nat) : List CpInfo := es.foldr (fun e r => gap e.1 (e.2 :: r)) (gap last [])
def pool (es : List (Nat × CpInfo)) (last : Nat) : Array CpInfo := ⟨poolList es last⟩
def fileOf (pool : Array CpInfo) (this : Nat) (attrs : Array Attribute := #[]) (ms : Array MethodInfo := #[]) (fl : Nat := 33) (sup : Nat := 0) (ifs : Array Nat := #[]) (fds : Array FieldInfo := #[]) : ClassFile where
  minorVersion := 0
  majorVersion := 65
  constantPool := pool
  accessFlags := fl
  thisClass := this
  superClass := sup
  interfaces := ifs
  fields := fds
  methods := ms
  attributes := attrs
def plain (name : String) (sup : Option ClassId) : Class where
  name := name
  kind := .ordinary
  loader := none
  accessFlags := 33
  super := sup
  interfaces := #[]
  cf := none
  fields := #[]
  methods := #[]
  instanceTypes := #[]
  staticTypes := #[]
  resolved := #[]
  callSites := []
  init := .initialized
  statics := none
  mirror := none

def pool0 : Array CpInfo := pool [(5, u "<init>"), (0, u "()V"), (1, .class_ 10), (1, u "java/lang/Object")] 113

def k0m0 : Method := { name := "<init>", desc := "()V", sig := { parameters := [], returnType := none }, accessFlags := 1, code := none }
/-- java/lang/Object -/
def k0 : Class := { plain "java/lang/Object" none with
  accessFlags := 33
  interfaces := #[]
  cf := some (fileOf pool0 8 #[] #[{ accessFlags := 1, nameIndex := 5, descriptorIndex := 6, attributes := #[] }] 33 0 #[] #[])
  fields := #[]
  methods := #[k0m0]
  instanceTypes := #[]
  staticTypes := #[]
  resolved := Array.replicate 124 none
  statics := none }

def pool1 : Array CpInfo := pool [(2, .class_ 4), (1, u "java/lang/Object"), (0, u "<init>"), (0, u "()V"), (0, .integer 2147483647), (0, .methodref 9 10), (0, .class_ 11), (0, .nameAndType 12 13), (0, u "com/example/chronopath/chronopath/network/Network"), (0, u "firstSlots"), (0, u "(I[II)[I"), (0, .methodref 15 16), (0, .class_ 17), (0, .nameAndType 18 19), (0, u "com/example/chronopath/chronopath/network/NetworkFirstSlotsPinLaw"), (0, u "slot"), (0, u "([IIIIIIII)Z"), (0, .methodref 15 21), (0, .nameAndType 22 23), (0, u "below"), (0, u "(IIII)I"), (2, u "law"), (0, u "(IIIIII)Z")] 5

def k1m0 : Method := { name := "<init>", desc := "()V", sig := { parameters := [], returnType := none }, accessFlags := 1, code := none }
def k1c1 : Code := { maxStack := 8, maxLocals := 16, code := code, exceptionTable := #[], attributes := #[] }
def k1m1 : Method := { name := "law", desc := "(IIIIII)Z", sig := { parameters := [.int, .int, .int, .int, .int, .int], returnType := some .boolean }, accessFlags := 9, code := some k1c1 }
def k1c2 : Code := { maxStack := 2, maxLocals := 4, code := method_3_code, exceptionTable := #[], attributes := #[] }
def k1m2 : Method := { name := "below", desc := "(IIII)I", sig := { parameters := [.int, .int, .int, .int], returnType := some .int }, accessFlags := 10, code := some k1c2 }
def k1c3 : Code := { maxStack := 5, maxLocals := 9, code := method_4_code, exceptionTable := #[], attributes := #[] }
def k1m3 : Method := { name := "slot", desc := "([IIIIIIII)Z", sig := { parameters := [(.array .int), .int, .int, .int, .int, .int, .int, .int], returnType := some .boolean }, accessFlags := 10, code := some k1c3 }
/-- com/example/chronopath/chronopath/network/NetworkFirstSlotsPinLaw -/
def k1 : Class := { plain "com/example/chronopath/chronopath/network/NetworkFirstSlotsPinLaw" (some 0) with
  accessFlags := 49
  interfaces := #[]
  cf := some (fileOf pool1 15 #[] #[{ accessFlags := 1, nameIndex := 5, descriptorIndex := 6, attributes := #[] }, { accessFlags := 9, nameIndex := 26, descriptorIndex := 27, attributes := #[] }, { accessFlags := 10, nameIndex := 22, descriptorIndex := 23, attributes := #[] }, { accessFlags := 10, nameIndex := 18, descriptorIndex := 19, attributes := #[] }] 49 2 #[] #[])
  fields := #[]
  methods := #[k1m0, k1m1, k1m2, k1m3]
  instanceTypes := #[]
  staticTypes := #[]
  resolved := Array.replicate 33 none
  statics := none }

def pool2 : Array CpInfo := pool [(1, .class_ 2), (0, u "com/example/chronopath/chronopath/network/Nodes"), (0, .class_ 4), (0, u "java/lang/Object")] 8

/-- com/example/chronopath/chronopath/network/Nodes -/
def k2 : Class := { plain "com/example/chronopath/chronopath/network/Nodes" (some 0) with
  accessFlags := 1537
  interfaces := #[]
  cf := some (fileOf pool2 1 #[] #[] 1537 3 #[] #[])
  fields := #[]
  methods := #[]
  instanceTypes := #[]
  staticTypes := #[]
  resolved := Array.replicate 13 none
  statics := none }

def pool3 : Array CpInfo := pool [(2, .class_ 4), (1, u "java/lang/Object"), (3, .class_ 10), (1, u "com/example/chronopath/chronopath/network/Network"), (0, u "nodeIds"), (0, u "Lcom/example/chronopath/chronopath/network/NodeIds;"), (14, u "[I"), (2, u "firstSlots"), (0, u "(I[II)[I"), (2, u "firstArc"), (2, u "arcHead"), (2, u "arcTail"), (4, u "arcTravelTime"), (0, u "[Lcom/example/chronopath/chronopath/network/TravelTime;"), (15, u "firstArcIn"), (2, u "arcIn"), (16, u "byWaysAtOnce"), (0, u "Lcom/example/chronopath/chronopath/network/Network;"), (15, .class_ 100), (0, u "com/example/chronopath/chronopath/network/Network$Builder"), (8, .class_ 110), (0, u "com/example/chronopath/chronopath/network/Nodes")] 35

def k3c0 : Code := { maxStack := 5, maxLocals := 5, code := prog_61_method_2_code, exceptionTable := #[], attributes := #[] }
def k3m0 : Method := { name := "firstSlots", desc := "(I[II)[I", sig := { parameters := [.int, (.array .int), .int], returnType := some (.array .int) }, accessFlags := 8, code := some k3c0 }
/-- com/example/chronopath/chronopath/network/Network -/
def k3 : Class := { plain "com/example/chronopath/chronopath/network/Network" (some 0) with
  accessFlags := 49
  interfaces := #[2]
  cf := some (fileOf pool3 8 #[.nestMembers #[99]] #[{ accessFlags := 8, nameIndex := 30, descriptorIndex := 31, attributes := #[] }] 49 2 #[109] #[{ accessFlags := 18, nameIndex := 11, descriptorIndex := 12, attributes := #[] }, { accessFlags := 16, nameIndex := 34, descriptorIndex := 27, attributes := #[] }, { accessFlags := 16, nameIndex := 37, descriptorIndex := 27, attributes := #[] }, { accessFlags := 16, nameIndex := 40, descriptorIndex := 27, attributes := #[] }, { accessFlags := 16, nameIndex := 45, descriptorIndex := 46, attributes := #[] }, { accessFlags := 16, nameIndex := 62, descriptorIndex := 27, attributes := #[] }, { accessFlags := 16, nameIndex := 65, descriptorIndex := 27, attributes := #[] }, { accessFlags := 2, nameIndex := 82, descriptorIndex := 83, attributes := #[] }])
  fields := #[{ name := "nodeIds", type := (.object "com/example/chronopath/chronopath/network/NodeIds"), accessFlags := 18, slot := 0, constantValue := 0 }, { name := "firstArc", type := (.array .int), accessFlags := 16, slot := 1, constantValue := 0 }, { name := "arcHead", type := (.array .int), accessFlags := 16, slot := 2, constantValue := 0 }, { name := "arcTail", type := (.array .int), accessFlags := 16, slot := 3, constantValue := 0 }, { name := "arcTravelTime", type := (.array (.object "com/example/chronopath/chronopath/network/TravelTime")), accessFlags := 16, slot := 4, constantValue := 0 }, { name := "firstArcIn", type := (.array .int), accessFlags := 16, slot := 5, constantValue := 0 }, { name := "arcIn", type := (.array .int), accessFlags := 16, slot := 6, constantValue := 0 }, { name := "byWaysAtOnce", type := (.object "com/example/chronopath/chronopath/network/Network"), accessFlags := 2, slot := 7, constantValue := 0 }]
  methods := #[k3m0]
  instanceTypes := #[(.object "com/example/chronopath/chronopath/network/NodeIds"), (.array .int), (.array .int), (.array .int), (.array (.object "com/example/chronopath/chronopath/network/TravelTime")), (.array .int), (.array .int), (.object "com/example/chronopath/chronopath/network/Network")]
  staticTypes := #[]
  resolved := Array.replicate 146 none
  statics := none }

def pool4 : Array CpInfo := pool [(1, u "java/lang/Cloneable"), (0, .class_ 1), (0, u "java/lang/Object"), (0, .class_ 3)] 3

/-- java/lang/Cloneable -/
def k4 : Class := { plain "java/lang/Cloneable" (some 0) with
  accessFlags := 1537
  interfaces := #[]
  cf := some (fileOf pool4 2 #[] #[] 1537 4 #[] #[])
  fields := #[]
  methods := #[]
  instanceTypes := #[]
  staticTypes := #[]
  resolved := Array.replicate 8 none
  statics := none }

def pool5 : Array CpInfo := pool [(1, u "java/io/Serializable"), (0, .class_ 1), (0, u "java/lang/Object"), (0, .class_ 3)] 3

/-- java/io/Serializable -/
def k5 : Class := { plain "java/io/Serializable" (some 0) with
  accessFlags := 1537
  interfaces := #[]
  cf := some (fileOf pool5 2 #[] #[] 1537 4 #[] #[])
  fields := #[]
  methods := #[]
  instanceTypes := #[]
  staticTypes := #[]
  resolved := Array.replicate 8 none
  statics := none }

/-- the primitive byte -/
def k6 : Class := { plain "byte" none with kind := .primitive 'B', accessFlags := 0x411 }
/-- [B -/
def k7 : Class := { plain "[B" (some 0) with kind := .array 6 .byte, interfaces := #[4, 5], accessFlags := 1041 }

/-- the primitive int -/
def k8 : Class := { plain "int" none with kind := .primitive 'I', accessFlags := 0x411 }
/-- [I -/
def k9 : Class := { plain "[I" (some 0) with kind := .array 8 .int, interfaces := #[4, 5], accessFlags := 1041 }

def heap : Heap := #[]
def classes : Array Class := #[k0, k1, k2, k3, k4, k5, k6, k7, k8, k9]
def interned : List (Array UInt16 × Addr) := []
def slotsUsed : Nat := 0
def theMethod : MethodId := ⟨1, 1⟩
def args0 : Array Value := #[.int 5, .int 5, .int 5, .int 5, .int 5, .int 5]
def aboutOver (below : List Frame) : State where
  vm := { classes := classes, interned := interned.toArray }
  heap := heap
  slotsUsed := slotsUsed
  threads := #[{ frames := .invoking theMethod args0 :: below }]
def below0 : List Frame := [.native { method := ⟨0, 0⟩, args := #[] }]
def about1 : State := aboutOver below0
def p0 : Program := .bare "" "" ""
def e0 : Env := launch0.env 0 0 0
theorem w_frames : about1.frames = Frame.invoking theMethod args0 :: below0 := rfl
set_option maxRecDepth 65536 in
theorem w_args : argsFit about1.vm theMethod args0 = true := by decide +kernel
set_option maxRecDepth 65536 in
theorem w_heap : heapFits about1 = true := by decide +kernel
set_option maxRecDepth 65536 in
theorem w_runnable : about1.curStatus? = some .runnable := by decide +kernel
set_option maxRecDepth 65536 in
theorem w_alone : about1.alone = true := by decide +kernel
set_option maxRecDepth 65536 in
theorem w_named : about1.methodNamed? x = some theMethod := by decide +kernel
set_option maxRecDepth 65536 in
theorem w_hears : about1.hears theMethod below0 = true := by decide +kernel
set_option maxRecDepth 65536 in
theorem w_ripe : about1.ripe theMethod args0 below0 = true := by decide +kernel
theorem w_running : about1.status = .running := rfl
set_option maxRecDepth 65536 in
theorem w_room : about1.hasRoom e0.platform room_1 = true :=
  launch0.hasRoom_least _ room_1 (by decide +kernel) (by decide +kernel) (by decide +kernel) (by decide +kernel) (by decide +kernel) (by decide +kernel)
theorem allAtoms_all (ts : List Jvm.Cond) (a : Array Jvm.Value) (st : Jvm.State) : (allAtoms ts).before a st = ts.all (fun c => c.before a st) := by
  induction ts with
  | nil => rfl
  | cons c t ih =>
    show (Jvm.Cond.and c (allAtoms t)).before a st = _
    rw [Jvm.Cond.before_and, ih, List.all_cons]
def words1 : List Jvm.Cond := Jvm.Cond.code x code maxLocals ret :: tables_1
/-- a 'code' word, met by the world's own term for the bytes: nothing is compared byte by byte -/
theorem code_word {y : MethodName} {bytes : ByteArray} {mx : Nat} {rt : Option FieldType} {a : Array Value} {s : State} {m : MethodId} {meth : Method} {c : Code} (h1 : s.methodNamed? y = some m) (h2 : s.vm.method? m = some meth) (h3 : meth.code = some c) (h4 : c.code = bytes)
    (h5 : (c.maxLocals == mx && c.exceptionTable.isEmpty && decide (c.maxStack ≤ mostOperands) && decide (meth.sig.returnType = rt) && !meth.locks && decide (parseMethodDescriptor y.desc = some meth.sig)) = true) : (Jvm.Cond.code y bytes mx rt).before a s = true := by
  simp only [Bool.and_eq_true, beq_iff_eq, Bool.not_eq_true', decide_eq_true_eq] at h5
  obtain ⟨⟨⟨⟨⟨g1, g2⟩, g3⟩, g4⟩, g5⟩, g6⟩ := h5
  simp [Cond.before, Cond.holds, Cond.value, h1, h2, h3, h4, g1, g2, g3, g4, g5, g6]
def isCode : Jvm.Cond → Bool
  | .code _ _ _ _ => true
  | _ => false
theorem all_split {L : List Jvm.Cond} {P : Jvm.Cond → Bool} (h1 : L.all (fun c => isCode c || P c) = true) (h2 : ∀ c ∈ L.filter isCode, P c = true) : L.all P = true := by
  refine List.all_eq_true.mpr fun c hc => ?_
  have h := List.all_eq_true.mp h1 c hc
  rcases Bool.eq_false_or_eq_true (isCode c) with hi | hi
  · exact h2 c (List.mem_filter.mpr ⟨hc, hi⟩)
  · simpa [hi] using h
set_option maxRecDepth 65536 in
theorem w_c0 : (Jvm.Cond.code x code maxLocals ret).before args0 about1 = true := code_word (m := ⟨1, 1⟩) (meth := k1m1) (c := k1c1) (by decide +kernel) rfl rfl rfl (by decide +kernel)
set_option maxRecDepth 65536 in
theorem w_c1 : (Jvm.Cond.code ({ cls := "com/example/chronopath/chronopath/network/Network", name := "firstSlots", desc := "(I[II)[I" } : Jvm.MethodName) prog_61_method_2_code (5 : Nat) (Option.some (Jvm.ClassFile.FieldType.array Jvm.ClassFile.FieldType.int))).before args0 about1 = true := code_word (m := ⟨3, 0⟩) (meth := k3m0) (c := k3c0) (by decide +kernel) rfl rfl rfl (by decide +kernel)
set_option maxRecDepth 65536 in
theorem w_c2 : (Jvm.Cond.code ({ cls := "com/example/chronopath/chronopath/network/NetworkFirstSlotsPinLaw", name := "slot", desc := "([IIIIIIII)Z" } : Jvm.MethodName) method_4_code (9 : Nat) (Option.some Jvm.ClassFile.FieldType.boolean)).before args0 about1 = true := code_word (m := ⟨1, 3⟩) (meth := k1m3) (c := k1c3) (by decide +kernel) rfl rfl rfl (by decide +kernel)
set_option maxRecDepth 65536 in
theorem w_c3 : (Jvm.Cond.code ({ cls := "com/example/chronopath/chronopath/network/NetworkFirstSlotsPinLaw", name := "below", desc := "(IIII)I" } : Jvm.MethodName) method_3_code (4 : Nat) (Option.some Jvm.ClassFile.FieldType.int)).before args0 about1 = true := code_word (m := ⟨1, 2⟩) (meth := k1m2) (c := k1c2) (by decide +kernel) rfl rfl rfl (by decide +kernel)
def codes1 : List Jvm.Cond := [Jvm.Cond.code x code maxLocals ret, Jvm.Cond.code ({ cls := "com/example/chronopath/chronopath/network/Network", name := "firstSlots", desc := "(I[II)[I" } : Jvm.MethodName) prog_61_method_2_code (5 : Nat) (Option.some (Jvm.ClassFile.FieldType.array Jvm.ClassFile.FieldType.int)), Jvm.Cond.code ({ cls := "com/example/chronopath/chronopath/network/NetworkFirstSlotsPinLaw", name := "slot", desc := "([IIIIIIII)Z" } : Jvm.MethodName) method_4_code (9 : Nat) (Option.some Jvm.ClassFile.FieldType.boolean), Jvm.Cond.code ({ cls := "com/example/chronopath/chronopath/network/NetworkFirstSlotsPinLaw", name := "below", desc := "(IIII)I" } : Jvm.MethodName) method_3_code (4 : Nat) (Option.some Jvm.ClassFile.FieldType.int)]
set_option maxRecDepth 65536 in
theorem codes_eq : words1.filter isCode = codes1 := rfl
theorem w_codes : ∀ c ∈ words1.filter isCode, c.before args0 about1 = true := by
  rw [codes_eq]
  intro c hc
  simp only [codes1, List.mem_cons, List.not_mem_nil, or_false] at hc
  rcases hc with rfl | rfl | rfl | rfl
  · exact w_c0
  · exact w_c1
  · exact w_c2
  · exact w_c3
set_option maxRecDepth 65536 in
theorem w_t1 : words1.all (fun c => isCode c || c.before args0 about1) = true := by decide +kernel
theorem w_tables : (allAtoms (Jvm.Cond.code x code maxLocals ret :: tables_1)).before args0 about1 = true := by
  rw [allAtoms_all]
  show words1.all (fun c => c.before args0 about1) = true
  refine all_split ?_ w_codes
  rw [w_t1]
set_option maxRecDepth 65536 in
theorem w_case : (Jvm.Cond.and given_1 narrow_1).before args0 about1 = true := by decide +kernel
theorem w_applies : (headSpec (Jvm.Cond.code x code maxLocals ret :: tables_1) room_1).applies x e0.platform about1 = true :=
  (Spec.applies_iff w_frames).mpr ⟨w_running, w_runnable, w_alone, w_named, w_hears, w_ripe, w_room, w_tables⟩
theorem atStart : AtStart classFile x code maxLocals ret World_1 tables_1 room_1 Calls_1 rest_1 Pre_1 launch0 p0 e0 about1 theMethod args0 below0 :=
  ⟨lists_1, trivial, launch0.admits_env _ _ _, launch0.least_env, fairChoices_fair.cas, fairChoices_fair.clock, w_frames, w_args, w_heap, w_applies, trivial, trivial, w_case⟩
end start1
theorem witness_1 : WitnessClaimed_1 := ⟨start1.p0, start1.e0, start1.about1, start1.theMethod, start1.args0, start1.below0, start1.atStart⟩
end Jvm.Pilot.@@N@@
