import JvmDerived
import JvmDerived.Pilot.@@N@@Statement
import JvmDerived.Pilot.@@N@@Code
set_option linter.unusedVariables false
set_option linter.unusedSimpArgs false
namespace Jvm.Pilot.@@N@@
open Jvm Jvm.ClassFile Sem Op Lib Jvm.Free Jvm.Stand Jvm.LawKit Jvm.RoadKit Bundle Jvm.Pilot.@@N@@.Jvm.D
theorem own_go {α β : Sort _} {A B : α → Prop} {P : α → β → Prop} (k : ∀ t, A t → B t) (h : ∃ t o, A t ∧ P t o) : ∃ t o, B t ∧ P t o := by
  obtain ⟨t, o, h1, h2⟩ := h
  exact ⟨t, o, k t h1, h2⟩
theorem own_abs {α β : Sort _} {A : α → Prop} {P : α → β → Prop} (h : ∀ P' : α → β → Prop, (∀ t o, P t o → P' t o) → ∃ t o, A t ∧ P' t o) : ∃ t o, A t ∧ P t o := h P fun _ _ q => q
theorem own_cat1 {v : Value} (h : v.isRef = true) : v.category = 1 := by rcases ref_cases h with rfl | ⟨_, rfl⟩ <;> rfl
theorem own_slot1 {v : Value} (h : v.isRef = true) : Slot.val v = .unset ∨ ∃ w, Slot.val v = .val w ∧ w.category = 1 := Or.inr ⟨v, rfl, own_cat1 h⟩
theorem own_nar {C : String} {w : Value} (h : w.isRef = true) : narrow (.object C) w = w := by rcases ref_cases h with rfl | ⟨_, rfl⟩ <;> rfl
def own_K (vl : List Value) (i : Int32) : Value := if i < 0 then .null else vl.getD i.toNatClampNeg .null
theorem own_far {vl : List Value} (hl : vl.length = 20) {i : Int32} (h : ¬ i < 20) : own_K vl i = .null := by
  unfold own_K
  split
  · rfl
  · have q : vl.length ≤ i.toNatClampNeg := by
      rw [hl]; rw [Int32.lt_iff_toInt_lt] at h; have : (20 : Int32).toInt = 20 := rfl
      simp only [Int32.toNatClampNeg]; omega
    rw [List.getD_eq_getElem?_getD, List.getElem?_eq_none q]; rfl
theorem own_zero {vl : List Value} (hl : vl.length = 20) (h0 : vl.getD 0 .null = .null) {i : Int32} (h : ∀ k : Nat, 1 ≤ k → k ≤ 19 → i.toInt ≠ k) : own_K vl i = .null := by
  by_cases c : i < 20
  · by_cases n : i < 0
    · unfold own_K; rw [if_pos n]
    · have e : i = 0 := by
        refine Int32.toInt_inj.mp ?_
        rw [Int32.lt_iff_toInt_lt] at c n
        have a1 : (20 : Int32).toInt = 20 := rfl
        have a0 : (0 : Int32).toInt = 0 := rfl
        rw [a1] at c; rw [a0] at n ⊢
        have := h i.toInt.toNat
        omega
      subst e; exact h0
  · exact own_far hl c
theorem own_isref {vl : List Value} (h : ∀ v ∈ vl, v.isRef = true) (i : Int32) : (own_K vl i).isRef = true := by
  unfold own_K
  split
  · rfl
  · rw [List.getD_eq_getElem?_getD]
    cases e : vl[i.toNatClampNeg]? with
    | none => rfl
    | some v => exact h v (List.mem_of_getElem? e)
theorem own_d_prog_29_method_4_code_0 : decode prog_29_method_4_code 0 = .ok (.getstatic 3, 3) := by decide +kernel
theorem own_d_prog_29_method_4_code_3 : decode prog_29_method_4_code 3 = .ok (.astore_n 1, 1) := by decide +kernel
theorem own_d_prog_29_method_4_code_4 : decode prog_29_method_4_code 4 = .ok (.iload_n 0, 1) := by decide +kernel
theorem own_d_prog_29_method_4_code_5 : decode prog_29_method_4_code 5 = .ok (.iconst 1, 1) := by decide +kernel
theorem own_d_prog_29_method_4_code_6 : decode prog_29_method_4_code 6 = .ok (.if_icmp .eq 25, 3) := by decide +kernel
theorem own_d_prog_29_method_4_code_31 : decode prog_29_method_4_code 31 = .ok (.aload_n 1, 1) := by decide +kernel
theorem own_d_prog_29_method_4_code_32 : decode prog_29_method_4_code 32 = .ok (.areturn, 1) := by decide +kernel
theorem own_d_prog_29_method_4_code_9 : decode prog_29_method_4_code 9 = .ok (.iload_n 0, 1) := by decide +kernel
theorem own_d_prog_29_method_4_code_10 : decode prog_29_method_4_code 10 = .ok (.ifCond .lt 19, 3) := by decide +kernel
theorem own_d_prog_29_method_4_code_29 : decode prog_29_method_4_code 29 = .ok (.aconst_null, 1) := by decide +kernel
theorem own_d_prog_29_method_4_code_30 : decode prog_29_method_4_code 30 = .ok (.astore_n 1, 1) := by decide +kernel
theorem own_d_prog_29_method_4_code_13 : decode prog_29_method_4_code 13 = .ok (.iload_n 0, 1) := by decide +kernel
theorem own_d_prog_29_method_4_code_14 : decode prog_29_method_4_code 14 = .ok (.getstatic 94, 3) := by decide +kernel
theorem own_d_prog_29_method_4_code_17 : decode prog_29_method_4_code 17 = .ok (.arraylength, 1) := by decide +kernel
theorem own_d_prog_29_method_4_code_18 : decode prog_29_method_4_code 18 = .ok (.if_icmp .ge 11, 3) := by decide +kernel
theorem own_d_prog_29_method_4_code_21 : decode prog_29_method_4_code 21 = .ok (.getstatic 94, 3) := by decide +kernel
theorem own_d_prog_29_method_4_code_24 : decode prog_29_method_4_code 24 = .ok (.iload_n 0, 1) := by decide +kernel
theorem own_d_prog_29_method_4_code_25 : decode prog_29_method_4_code 25 = .ok (.aaload, 1) := by decide +kernel
theorem own_d_prog_29_method_4_code_26 : decode prog_29_method_4_code 26 = .ok (.goto 4, 3) := by decide +kernel
theorem own_ef_ofCode (m : MethodId) (x0 : Int32) : entryFrame m #[(.int x0)] 2 = mkF m 0 #[.val (.int x0), .unset] [] := by first | (simp [entryFrame, mkF, argsToLocals, Value.category]; done) | rfl
def own_Q_ofCode (Z : State) (ix : Int32) (m1 m2 m3 m4 m5 m6 m7 m8 m9 m10 m11 m12 m13 m14 m15 m16 m17 m18 m19 kb : Addr) (ck : ClassId) (h0 : Heap) (n0 : Nat) (v : Option Value) (h : Heap) (L : List Loc) : Prop := v = some (own_K [.null, (.ref m1), (.ref m2), (.ref m3), (.ref m4), (.ref m5), (.ref m6), (.ref m7), (.ref m8), (.ref m9), (.ref m10), (.ref m11), (.ref m12), (.ref m13), (.ref m14), (.ref m15), (.ref m16), (.ref m17), (.ref m18), (.ref m19)] ix) ∧ Fr n0 L ∧ h = h0
theorem own_pn_com_example_feeder_feeder_client_FrameKind : plainName "com/example/feeder/feeder/client/FrameKind" = true := by first | (simp [plainName, overriddenIn]; done) | decide +kernel
set_option maxRecDepth 65536 in
set_option maxHeartbeats 40000000 in
theorem own_rm_ofCode (l : Launch) (Z : State) (a0 : Array Value) (hw : ∀ d ∈ tables_1, d.before a0 Z = true) (ws : List Jvm.Cond) (ix : Int32) (m1 m2 m3 m4 m5 m6 m7 m8 m9 m10 m11 m12 m13 m14 m15 m16 m17 m18 m19 kb : Addr) (ck : ClassId) (h0 : Heap) (n0 : Nat) (Z0 : n0 ≤ h0.size) (S_MESSAGE : Sta Z h0 "com/example/feeder/feeder/client/FrameKind" "MESSAGE" "Lcom/example/feeder/feeder/client/FrameKind;" (.ref m1)) (S_SUBSCRIBE : Sta Z h0 "com/example/feeder/feeder/client/FrameKind" "SUBSCRIBE" "Lcom/example/feeder/feeder/client/FrameKind;" (.ref m2)) (S_SUBSCRIBED : Sta Z h0 "com/example/feeder/feeder/client/FrameKind" "SUBSCRIBED" "Lcom/example/feeder/feeder/client/FrameKind;" (.ref m3)) (S_SYNC : Sta Z h0 "com/example/feeder/feeder/client/FrameKind" "SYNC" "Lcom/example/feeder/feeder/client/FrameKind;" (.ref m4)) (S_SYNCED : Sta Z h0 "com/example/feeder/feeder/client/FrameKind" "SYNCED" "Lcom/example/feeder/feeder/client/FrameKind;" (.ref m5)) (S_ERROR : Sta Z h0 "com/example/feeder/feeder/client/FrameKind" "ERROR" "Lcom/example/feeder/feeder/client/FrameKind;" (.ref m6)) (S_LINK : Sta Z h0 "com/example/feeder/feeder/client/FrameKind" "LINK" "Lcom/example/feeder/feeder/client/FrameKind;" (.ref m7)) (S_TAKING : Sta Z h0 "com/example/feeder/feeder/client/FrameKind" "TAKING" "Lcom/example/feeder/feeder/client/FrameKind;" (.ref m8)) (S_STATUS : Sta Z h0 "com/example/feeder/feeder/client/FrameKind" "STATUS" "Lcom/example/feeder/feeder/client/FrameKind;" (.ref m9)) (S_COUNTS : Sta Z h0 "com/example/feeder/feeder/client/FrameKind" "COUNTS" "Lcom/example/feeder/feeder/client/FrameKind;" (.ref m10)) (S_NODE_STATUS : Sta Z h0 "com/example/feeder/feeder/client/FrameKind" "NODE_STATUS" "Lcom/example/feeder/feeder/client/FrameKind;" (.ref m11)) (S_CHALLENGE : Sta Z h0 "com/example/feeder/feeder/client/FrameKind" "CHALLENGE" "Lcom/example/feeder/feeder/client/FrameKind;" (.ref m12)) (S_PROOF : Sta Z h0 "com/example/feeder/feeder/client/FrameKind" "PROOF" "Lcom/example/feeder/feeder/client/FrameKind;" (.ref m13)) (S_TOPIC_REFUSED : Sta Z h0 "com/example/feeder/feeder/client/FrameKind" "TOPIC_REFUSED" "Lcom/example/feeder/feeder/client/FrameKind;" (.ref m14)) (S_UNSUBSCRIBE : Sta Z h0 "com/example/feeder/feeder/client/FrameKind" "UNSUBSCRIBE" "Lcom/example/feeder/feeder/client/FrameKind;" (.ref m15)) (S_HELLO : Sta Z h0 "com/example/feeder/feeder/client/FrameKind" "HELLO" "Lcom/example/feeder/feeder/client/FrameKind;" (.ref m16)) (S_DELIVERED : Sta Z h0 "com/example/feeder/feeder/client/FrameKind" "DELIVERED" "Lcom/example/feeder/feeder/client/FrameKind;" (.ref m17)) (S_SUBSCRIBER_LOST : Sta Z h0 "com/example/feeder/feeder/client/FrameKind" "SUBSCRIBER_LOST" "Lcom/example/feeder/feeder/client/FrameKind;" (.ref m18)) (S_SUBSCRIBER_BACK : Sta Z h0 "com/example/feeder/feeder/client/FrameKind" "SUBSCRIBER_BACK" "Lcom/example/feeder/feeder/client/FrameKind;" (.ref m19)) (S_BY : Sta Z h0 "com/example/feeder/feeder/client/FrameKind" "BY_CODE" "[Lcom/example/feeder/feeder/client/FrameKind;" (.ref kb)) (V0 : Arv Z h0 kb ck (.object "com/example/feeder/feeder/client/FrameKind") (20 : Int32) [.null, (.ref m1), (.ref m2), (.ref m3), (.ref m4), (.ref m5), (.ref m6), (.ref m7), (.ref m8), (.ref m9), (.ref m10), (.ref m11), (.ref m12), (.ref m13), (.ref m14), (.ref m15), (.ref m16), (.ref m17), (.ref m18), (.ref m19)] .null) :
    MetFree l (⟨"com/example/feeder/feeder/client/FrameKind", "ofCode", "(I)Lcom/example/feeder/feeder/client/FrameKind;"⟩ : MethodName) (head1 (Jvm.Cond.code (⟨"com/example/feeder/feeder/client/FrameKind", "ofCode", "(I)Lcom/example/feeder/feeder/client/FrameKind;"⟩ : MethodName) prog_29_method_4_code 2 (some (.object "com/example/feeder/feeder/client/FrameKind")) :: ws) ({ frames := 0, cells := 0, slots := 0, locals := 0 } : Room)) (fun a U => a = #[(.int ix)] ∧ Z.Warmed39 U.vm ∧ U.heap = h0) (fun _ _ _ _ _ => True) (fun _ U o U' => ∃ v L, o = .returned v ∧ own_Q_ofCode Z ix m1 m2 m3 m4 m5 m6 m7 m8 m9 m10 m11 m12 m13 m14 m15 m16 m17 m18 m19 kb ck h0 n0 v U'.heap L ∧ FrameEnd U o U' L ({ frames := 0, cells := 0, slots := 0, locals := 0 } : Room).cells ({ frames := 0, cells := 0, slots := 0, locals := 0 } : Room).slots) := by
  refine MetFree.of_bodySF (plainFor_of_name own_pn_com_example_feeder_feeder_client_FrameKind) hisR ?_
  intro p e s m args below meth c s₁ Bd hml0 hP hKq_
  obtain ⟨rfl, hZ, hh⟩ := hP
  have hx := Bd.exec
  have hby := Bd.bytes
  have hml : c.maxLocals = 2 := hml0
  have hown : s.vm.findClass "com/example/feeder/feeder/client/FrameKind" = some m.cls := findClass_of_methodNamed Bd.named
  have hnm := (name_of_methodNamed Bd.named Bd.method).1
  have X0 : Stand p l e ({ frames := 0, cells := 0, slots := 0, locals := 0 } : Room) s m #[(.int ix)] below meth c s₁ [] 0 0 := Stand.of_body Bd
  have e0 : s₁.heap = h0 := by rw [← hh, Bd.state]; rfl
  have N0 := Fr.nil n0
  have pre0 : ∀ t, Steps p.tables e below (s₁.setTop (mkF m 0 #[.val (.int ix), .unset] [])) t → Steps p.tables e below (s₁.setTop (entryFrame m #[(.int ix)] 2)) t := fun t k => castTop (own_ef_ofCode m ix) k
  refine own_go pre0 ?_
  refine own_abs ?_
  intro Pf hPf
  obtain ⟨T1, X1, e1, st1⟩ := getS2 X0 hx hZ hown (host := "") (Or.inl (hw _ (List.mem_of_getElem? (i := 4) rfl))) Via.refl e0 S_MESSAGE (g := (mkF m 0 #[.val (.int ix), .unset] [])) rfl (hb hby own_d_prog_29_method_4_code_0)
  refine own_go st1 ?_
  have k2 : ∀ t, Steps p.tables e below (T1.setTop (mkF m 6 #[.val (.int ix), .val (.ref m1)] [(.int (1 : Int32)), (.int ix)])) t → Steps p.tables e below (T1.setTop (mkF m 3 #[.val (.int ix), .unset] [(.ref m1)])) t := fun t k => by
    refine XS.astoreN X1.here hx rfl (hb hby own_d_prog_29_method_4_code_3) rfl rfl (l' := #[.val (.int ix), .val (.ref m1)]) rfl ?_
    show Steps p.tables e below (T1.setTop (mkF m 4 #[.val (.int ix), .val (.ref m1)] [])) _
    refine XS.iloadN X1.here hx rfl (hb hby own_d_prog_29_method_4_code_4) rfl ?_
    show Steps p.tables e below (T1.setTop (mkF m 5 #[.val (.int ix), .val (.ref m1)] [(.int ix)])) _
    refine XS.iconst X1.here hx rfl (hb hby own_d_prog_29_method_4_code_5) ?_
    show Steps p.tables e below (T1.setTop (mkF m 6 #[.val (.int ix), .val (.ref m1)] [(.int (1 : Int32)), (.int ix)])) _
    exact k
  refine own_go k2 ?_
  clear k2
  by_cases hc6_3 : ix = (1 : Int32)
  · skip
    have k4 : ∀ t, Steps p.tables e below (T1.setTop (mkF m 32 #[.val (.int ix), .val (.ref m1)] [(.ref m1)])) t → Steps p.tables e below (T1.setTop (mkF m 6 #[.val (.int ix), .val (.ref m1)] [(.int (1 : Int32)), (.int ix)])) t := fun t k => by
      refine XS.icmpYes X1.here hx rfl (pc0 := 6) (pc' := 31) rfl (hb hby own_d_prog_29_method_4_code_6) rfl (teq hc6_3).1 (by decide) (by decide) ?_
      show Steps p.tables e below (T1.setTop (mkF m 31 #[.val (.int ix), .val (.ref m1)] [])) _
      refine XS.aloadN X1.here hx rfl (hb hby own_d_prog_29_method_4_code_31) rfl rfl ?_
      show Steps p.tables e below (T1.setTop (mkF m 32 #[.val (.int ix), .val (.ref m1)] [(.ref m1)])) _
      exact k
    refine own_go k4 ?_
    clear k4
    obtain ⟨fs, hr, hrun, hended, hW, hsame⟩ := X1.leave (v := some (.ref m1)) (fun h => by rw [Bd.returns] at h; cases h)
    refine ⟨_, _, retOut X1 hx Bd.returns rfl (Or.inr (Or.inr (Or.inr (Or.inr ⟨rfl, rfl, rfl⟩)))) (hb hby own_d_prog_29_method_4_code_32) hr, hPf _ _ ⟨hrun, hended, _, _, rfl, ?_, ⟨_, rfl⟩, hW, hsame.mono (by decide) (by decide)⟩⟩
    show own_Q_ofCode Z ix m1 m2 m3 m4 m5 m6 m7 m8 m9 m10 m11 m12 m13 m14 m15 m16 m17 m18 m19 kb ck h0 n0 _ T1.heap _
    rw [e1]
    exact ⟨by rw [hc6_3]; rfl, N0, rfl⟩
  · skip
    have k5 : ∀ t, Steps p.tables e below (T1.setTop (mkF m 10 #[.val (.int ix), .val (.ref m1)] [(.int ix)])) t → Steps p.tables e below (T1.setTop (mkF m 6 #[.val (.int ix), .val (.ref m1)] [(.int (1 : Int32)), (.int ix)])) t := fun t k => by
      refine XS.icmpNo X1.here hx rfl (hb hby own_d_prog_29_method_4_code_6) rfl (feq hc6_3).1 ?_
      show Steps p.tables e below (T1.setTop (mkF m 9 #[.val (.int ix), .val (.ref m1)] [])) _
      refine XS.iloadN X1.here hx rfl (hb hby own_d_prog_29_method_4_code_9) rfl ?_
      show Steps p.tables e below (T1.setTop (mkF m 10 #[.val (.int ix), .val (.ref m1)] [(.int ix)])) _
      exact k
    refine own_go k5 ?_
    clear k5
    by_cases hc10_6 : ix < (0 : Int32)
    · skip
      have k7 : ∀ t, Steps p.tables e below (T1.setTop (mkF m 32 #[.val (.int ix), .val .null] [.null])) t → Steps p.tables e below (T1.setTop (mkF m 10 #[.val (.int ix), .val (.ref m1)] [(.int ix)])) t := fun t k => by
        refine XS.ifYes X1.here hx rfl (pc0 := 10) (pc' := 29) rfl (hb hby own_d_prog_29_method_4_code_10) rfl ((if0 _ _).trans (tlt hc10_6).1) (by decide) (by decide) ?_
        show Steps p.tables e below (T1.setTop (mkF m 29 #[.val (.int ix), .val (.ref m1)] [])) _
        refine XS.aconstNull X1.here hx rfl (hb hby own_d_prog_29_method_4_code_29) ?_
        show Steps p.tables e below (T1.setTop (mkF m 30 #[.val (.int ix), .val (.ref m1)] [.null])) _
        refine XS.astoreN X1.here hx rfl (hb hby own_d_prog_29_method_4_code_30) rfl rfl (l' := #[.val (.int ix), .val .null]) rfl ?_
        show Steps p.tables e below (T1.setTop (mkF m 31 #[.val (.int ix), .val .null] [])) _
        refine XS.aloadN X1.here hx rfl (hb hby own_d_prog_29_method_4_code_31) rfl rfl ?_
        show Steps p.tables e below (T1.setTop (mkF m 32 #[.val (.int ix), .val .null] [.null])) _
        exact k
      refine own_go k7 ?_
      clear k7
      obtain ⟨fs, hr, hrun, hended, hW, hsame⟩ := X1.leave (v := some .null) (fun h => by rw [Bd.returns] at h; cases h)
      refine ⟨_, _, retOut X1 hx Bd.returns rfl (Or.inr (Or.inr (Or.inr (Or.inr ⟨rfl, rfl, rfl⟩)))) (hb hby own_d_prog_29_method_4_code_32) hr, hPf _ _ ⟨hrun, hended, _, _, rfl, ?_, ⟨_, rfl⟩, hW, hsame.mono (by decide) (by decide)⟩⟩
      show own_Q_ofCode Z ix m1 m2 m3 m4 m5 m6 m7 m8 m9 m10 m11 m12 m13 m14 m15 m16 m17 m18 m19 kb ck h0 n0 _ T1.heap _
      rw [e1]
      exact ⟨by unfold own_K; rw [if_pos hc10_6], N0, rfl⟩
    · skip
      have k8 : ∀ t, Steps p.tables e below (T1.setTop (mkF m 14 #[.val (.int ix), .val (.ref m1)] [(.int ix)])) t → Steps p.tables e below (T1.setTop (mkF m 10 #[.val (.int ix), .val (.ref m1)] [(.int ix)])) t := fun t k => by
        refine XS.ifNo X1.here hx rfl (hb hby own_d_prog_29_method_4_code_10) rfl ((if0 _ _).trans (flt hc10_6).1) ?_
        show Steps p.tables e below (T1.setTop (mkF m 13 #[.val (.int ix), .val (.ref m1)] [])) _
        refine XS.iloadN X1.here hx rfl (hb hby own_d_prog_29_method_4_code_13) rfl ?_
        show Steps p.tables e below (T1.setTop (mkF m 14 #[.val (.int ix), .val (.ref m1)] [(.int ix)])) _
        exact k
      refine own_go k8 ?_
      clear k8
      obtain ⟨T9, X9, e9, st9⟩ := getS2 X1 hx hZ hown (host := "") (Or.inl (hw _ (List.mem_of_getElem? (i := 6) rfl))) Via.refl e1 S_BY (g := (mkF m 14 #[.val (.int ix), .val (.ref m1)] [(.int ix)])) rfl (hb hby own_d_prog_29_method_4_code_14)
      refine own_go st9 ?_
      obtain ⟨cl10, Ar10, -, S10, N10, -, -⟩ := id (V0)
      have k11 : ∀ t, Steps p.tables e below (T9.setTop (mkF m 18 #[.val (.int ix), .val (.ref m1)] [(.int (20 : Int32)), (.int ix)])) t → Steps p.tables e below (T9.setTop (mkF m 17 #[.val (.int ix), .val (.ref m1)] [(.ref kb), (.int ix)])) t := fun t k => by
        refine X9.arraylength hx (by rw [e9]; exact Ar10.1) (State.isArrayOf_alike hZ.alike Ar10.2.1) (g := (mkF m 17 #[.val (.int ix), .val (.ref m1)] [(.ref kb), (.int ix)])) rfl rfl (hb hby own_d_prog_29_method_4_code_17) _ ?_
        rw [len_of S10 N10]
        show Steps p.tables e below (T9.setTop (mkF m 18 #[.val (.int ix), .val (.ref m1)] [(.int (20 : Int32)), (.int ix)])) _
        exact k
      refine own_go k11 ?_
      clear k11
      by_cases hc18_12 : ix < (20 : Int32)
      · skip
        have k13 : ∀ t, Steps p.tables e below (T9.setTop (mkF m 21 #[.val (.int ix), .val (.ref m1)] [])) t → Steps p.tables e below (T9.setTop (mkF m 18 #[.val (.int ix), .val (.ref m1)] [(.int (20 : Int32)), (.int ix)])) t := fun t k => by
          refine XS.icmpNo X9.here hx rfl (hb hby own_d_prog_29_method_4_code_18) rfl (tlt hc18_12).2.1 ?_
          show Steps p.tables e below (T9.setTop (mkF m 21 #[.val (.int ix), .val (.ref m1)] [])) _
          exact k
        refine own_go k13 ?_
        clear k13
        obtain ⟨T14, X14, e14, st14⟩ := getS2 X9 hx hZ hown (host := "") (Or.inl (hw _ (List.mem_of_getElem? (i := 6) rfl))) Via.refl e9 S_BY (g := (mkF m 21 #[.val (.int ix), .val (.ref m1)] [])) rfl (hb hby own_d_prog_29_method_4_code_21)
        refine own_go st14 ?_
        have k15 : ∀ t, Steps p.tables e below (T14.setTop (mkF m 25 #[.val (.int ix), .val (.ref m1)] [(.int ix), (.ref kb)])) t → Steps p.tables e below (T14.setTop (mkF m 24 #[.val (.int ix), .val (.ref m1)] [(.ref kb)])) t := fun t k => by
          refine XS.iloadN X14.here hx rfl (hb hby own_d_prog_29_method_4_code_24) rfl ?_
          show Steps p.tables e below (T14.setTop (mkF m 25 #[.val (.int ix), .val (.ref m1)] [(.int ix), (.ref kb)])) _
          exact k
        refine own_go k15 ?_
        clear k15
        obtain ⟨cl16, Ar16, -, S16, -, H16, -⟩ := id (V0)
        have hi16 : ¬ (ix < 0 ∨ cl16.slots.size ≤ (ix).toNatClampNeg) := inb_of S16 ⟨hc10_6, hc18_12⟩
        have hv16 : cl16.slots[(ix).toNatClampNeg]? = some (own_K [.null, (.ref m1), (.ref m2), (.ref m3), (.ref m4), (.ref m5), (.ref m6), (.ref m7), (.ref m8), (.ref m9), (.ref m10), (.ref m11), (.ref m12), (.ref m13), (.ref m14), (.ref m15), (.ref m16), (.ref m17), (.ref m18), (.ref m19)] ix) := H16.at hi16 (by unfold own_K; rw [if_neg hc10_6])
        have k17 : ∀ t, Steps p.tables e below (T14.setTop (mkF m 32 #[.val (.int ix), .val (own_K [.null, (.ref m1), (.ref m2), (.ref m3), (.ref m4), (.ref m5), (.ref m6), (.ref m7), (.ref m8), (.ref m9), (.ref m10), (.ref m11), (.ref m12), (.ref m13), (.ref m14), (.ref m15), (.ref m16), (.ref m17), (.ref m18), (.ref m19)] ix)] [(own_K [.null, (.ref m1), (.ref m2), (.ref m3), (.ref m4), (.ref m5), (.ref m6), (.ref m7), (.ref m8), (.ref m9), (.ref m10), (.ref m11), (.ref m12), (.ref m13), (.ref m14), (.ref m15), (.ref m16), (.ref m17), (.ref m18), (.ref m19)] ix)])) t → Steps p.tables e below (T14.setTop (mkF m 25 #[.val (.int ix), .val (.ref m1)] [(.int ix), (.ref kb)])) t := fun t k => by
          refine X14.aaload hx (j := ix) (v := (own_K [.null, (.ref m1), (.ref m2), (.ref m3), (.ref m4), (.ref m5), (.ref m6), (.ref m7), (.ref m8), (.ref m9), (.ref m10), (.ref m11), (.ref m12), (.ref m13), (.ref m14), (.ref m15), (.ref m16), (.ref m17), (.ref m18), (.ref m19)] ix)) (by rw [e14]; exact Ar16.1) (State.isArrayOf_alike hZ.alike Ar16.2.1) rfl Ar16.2.2 hi16 hv16 (g := (mkF m 25 #[.val (.int ix), .val (.ref m1)] [(.int ix), (.ref kb)])) rfl rfl (hb hby own_d_prog_29_method_4_code_25) _ ?_
          show Steps p.tables e below (T14.setTop (mkF m 26 #[.val (.int ix), .val (.ref m1)] [(own_K [.null, (.ref m1), (.ref m2), (.ref m3), (.ref m4), (.ref m5), (.ref m6), (.ref m7), (.ref m8), (.ref m9), (.ref m10), (.ref m11), (.ref m12), (.ref m13), (.ref m14), (.ref m15), (.ref m16), (.ref m17), (.ref m18), (.ref m19)] ix)])) _
          refine XS.goto X14.here hx rfl (pc0 := 26) (pc' := 30) rfl (hb hby own_d_prog_29_method_4_code_26) (by decide) (by decide) ?_
          show Steps p.tables e below (T14.setTop (mkF m 30 #[.val (.int ix), .val (.ref m1)] [(own_K [.null, (.ref m1), (.ref m2), (.ref m3), (.ref m4), (.ref m5), (.ref m6), (.ref m7), (.ref m8), (.ref m9), (.ref m10), (.ref m11), (.ref m12), (.ref m13), (.ref m14), (.ref m15), (.ref m16), (.ref m17), (.ref m18), (.ref m19)] ix)])) _
          refine XS.astoreN X14.here hx rfl (hb hby own_d_prog_29_method_4_code_30) rfl (own_isref (by simp [Value.isRef]) _) (l' := #[.val (.int ix), .val (own_K [.null, (.ref m1), (.ref m2), (.ref m3), (.ref m4), (.ref m5), (.ref m6), (.ref m7), (.ref m8), (.ref m9), (.ref m10), (.ref m11), (.ref m12), (.ref m13), (.ref m14), (.ref m15), (.ref m16), (.ref m17), (.ref m18), (.ref m19)] ix)]) (XS.store1 rfl (Or.inr ⟨_, rfl, rfl⟩) ((own_cat1 (own_isref (by simp [Value.isRef]) _)))) ?_
          show Steps p.tables e below (T14.setTop (mkF m 31 #[.val (.int ix), .val (own_K [.null, (.ref m1), (.ref m2), (.ref m3), (.ref m4), (.ref m5), (.ref m6), (.ref m7), (.ref m8), (.ref m9), (.ref m10), (.ref m11), (.ref m12), (.ref m13), (.ref m14), (.ref m15), (.ref m16), (.ref m17), (.ref m18), (.ref m19)] ix)] [])) _
          refine XS.aloadN X14.here hx rfl (hb hby own_d_prog_29_method_4_code_31) rfl (own_isref (by simp [Value.isRef]) _) ?_
          show Steps p.tables e below (T14.setTop (mkF m 32 #[.val (.int ix), .val (own_K [.null, (.ref m1), (.ref m2), (.ref m3), (.ref m4), (.ref m5), (.ref m6), (.ref m7), (.ref m8), (.ref m9), (.ref m10), (.ref m11), (.ref m12), (.ref m13), (.ref m14), (.ref m15), (.ref m16), (.ref m17), (.ref m18), (.ref m19)] ix)] [(own_K [.null, (.ref m1), (.ref m2), (.ref m3), (.ref m4), (.ref m5), (.ref m6), (.ref m7), (.ref m8), (.ref m9), (.ref m10), (.ref m11), (.ref m12), (.ref m13), (.ref m14), (.ref m15), (.ref m16), (.ref m17), (.ref m18), (.ref m19)] ix)])) _
          exact k
        refine own_go k17 ?_
        clear k17
        obtain ⟨fs, hr, hrun, hended, hW, hsame⟩ := X14.leave (v := some (own_K [.null, (.ref m1), (.ref m2), (.ref m3), (.ref m4), (.ref m5), (.ref m6), (.ref m7), (.ref m8), (.ref m9), (.ref m10), (.ref m11), (.ref m12), (.ref m13), (.ref m14), (.ref m15), (.ref m16), (.ref m17), (.ref m18), (.ref m19)] ix)) (fun h => by rw [Bd.returns] at h; cases h)
        refine ⟨_, _, retOut X14 hx Bd.returns (own_nar (own_isref (by simp [Value.isRef]) _)) (Or.inr (Or.inr (Or.inr (Or.inr ⟨rfl, rfl, (own_isref (by simp [Value.isRef]) _)⟩)))) (hb hby own_d_prog_29_method_4_code_32) hr, hPf _ _ ⟨hrun, hended, _, _, rfl, ?_, ⟨_, rfl⟩, hW, hsame.mono (by decide) (by decide)⟩⟩
        show own_Q_ofCode Z ix m1 m2 m3 m4 m5 m6 m7 m8 m9 m10 m11 m12 m13 m14 m15 m16 m17 m18 m19 kb ck h0 n0 _ T14.heap _
        rw [e14]
        exact ⟨rfl, N0, rfl⟩
      · skip
        have k18 : ∀ t, Steps p.tables e below (T9.setTop (mkF m 32 #[.val (.int ix), .val .null] [.null])) t → Steps p.tables e below (T9.setTop (mkF m 18 #[.val (.int ix), .val (.ref m1)] [(.int (20 : Int32)), (.int ix)])) t := fun t k => by
          refine XS.icmpYes X9.here hx rfl (pc0 := 18) (pc' := 29) rfl (hb hby own_d_prog_29_method_4_code_18) rfl (flt hc18_12).2.1 (by decide) (by decide) ?_
          show Steps p.tables e below (T9.setTop (mkF m 29 #[.val (.int ix), .val (.ref m1)] [])) _
          refine XS.aconstNull X9.here hx rfl (hb hby own_d_prog_29_method_4_code_29) ?_
          show Steps p.tables e below (T9.setTop (mkF m 30 #[.val (.int ix), .val (.ref m1)] [.null])) _
          refine XS.astoreN X9.here hx rfl (hb hby own_d_prog_29_method_4_code_30) rfl rfl (l' := #[.val (.int ix), .val .null]) rfl ?_
          show Steps p.tables e below (T9.setTop (mkF m 31 #[.val (.int ix), .val .null] [])) _
          refine XS.aloadN X9.here hx rfl (hb hby own_d_prog_29_method_4_code_31) rfl rfl ?_
          show Steps p.tables e below (T9.setTop (mkF m 32 #[.val (.int ix), .val .null] [.null])) _
          exact k
        refine own_go k18 ?_
        clear k18
        obtain ⟨fs, hr, hrun, hended, hW, hsame⟩ := X9.leave (v := some .null) (fun h => by rw [Bd.returns] at h; cases h)
        refine ⟨_, _, retOut X9 hx Bd.returns rfl (Or.inr (Or.inr (Or.inr (Or.inr ⟨rfl, rfl, rfl⟩)))) (hb hby own_d_prog_29_method_4_code_32) hr, hPf _ _ ⟨hrun, hended, _, _, rfl, ?_, ⟨_, rfl⟩, hW, hsame.mono (by decide) (by decide)⟩⟩
        show own_Q_ofCode Z ix m1 m2 m3 m4 m5 m6 m7 m8 m9 m10 m11 m12 m13 m14 m15 m16 m17 m18 m19 kb ck h0 n0 _ T9.heap _
        rw [e9]
        exact ⟨congrArg some (own_far rfl hc18_12).symm, N0, rfl⟩
theorem own_d_method_2_code_0 : decode method_2_code 0 = .ok (.iload_n 0, 1) := by decide +kernel
theorem own_d_method_2_code_1 : decode method_2_code 1 = .ok (.iconst 1, 1) := by decide +kernel
theorem own_d_method_2_code_2 : decode method_2_code 2 = .ok (.if_icmp .ne 7, 3) := by decide +kernel
theorem own_d_method_2_code_5 : decode method_2_code 5 = .ok (.getstatic 7, 3) := by decide +kernel
theorem own_d_method_2_code_8 : decode method_2_code 8 = .ok (.areturn, 1) := by decide +kernel
theorem own_d_method_2_code_9 : decode method_2_code 9 = .ok (.iload_n 0, 1) := by decide +kernel
theorem own_d_method_2_code_10 : decode method_2_code 10 = .ok (.iconst 2, 1) := by decide +kernel
theorem own_d_method_2_code_11 : decode method_2_code 11 = .ok (.if_icmp .ne 7, 3) := by decide +kernel
theorem own_d_method_2_code_14 : decode method_2_code 14 = .ok (.getstatic 13, 3) := by decide +kernel
theorem own_d_method_2_code_17 : decode method_2_code 17 = .ok (.areturn, 1) := by decide +kernel
theorem own_d_method_2_code_18 : decode method_2_code 18 = .ok (.iload_n 0, 1) := by decide +kernel
theorem own_d_method_2_code_19 : decode method_2_code 19 = .ok (.iconst 3, 1) := by decide +kernel
theorem own_d_method_2_code_20 : decode method_2_code 20 = .ok (.if_icmp .ne 7, 3) := by decide +kernel
theorem own_d_method_2_code_23 : decode method_2_code 23 = .ok (.getstatic 16, 3) := by decide +kernel
theorem own_d_method_2_code_26 : decode method_2_code 26 = .ok (.areturn, 1) := by decide +kernel
theorem own_d_method_2_code_27 : decode method_2_code 27 = .ok (.iload_n 0, 1) := by decide +kernel
theorem own_d_method_2_code_28 : decode method_2_code 28 = .ok (.iconst 4, 1) := by decide +kernel
theorem own_d_method_2_code_29 : decode method_2_code 29 = .ok (.if_icmp .ne 7, 3) := by decide +kernel
theorem own_d_method_2_code_32 : decode method_2_code 32 = .ok (.getstatic 19, 3) := by decide +kernel
theorem own_d_method_2_code_35 : decode method_2_code 35 = .ok (.areturn, 1) := by decide +kernel
theorem own_d_method_2_code_36 : decode method_2_code 36 = .ok (.iload_n 0, 1) := by decide +kernel
theorem own_d_method_2_code_37 : decode method_2_code 37 = .ok (.iconst 5, 1) := by decide +kernel
theorem own_d_method_2_code_38 : decode method_2_code 38 = .ok (.if_icmp .ne 7, 3) := by decide +kernel
theorem own_d_method_2_code_41 : decode method_2_code 41 = .ok (.getstatic 22, 3) := by decide +kernel
theorem own_d_method_2_code_44 : decode method_2_code 44 = .ok (.areturn, 1) := by decide +kernel
theorem own_d_method_2_code_45 : decode method_2_code 45 = .ok (.iload_n 0, 1) := by decide +kernel
theorem own_d_method_2_code_46 : decode method_2_code 46 = .ok (.bipush 6, 2) := by decide +kernel
theorem own_d_method_2_code_48 : decode method_2_code 48 = .ok (.if_icmp .ne 7, 3) := by decide +kernel
theorem own_d_method_2_code_51 : decode method_2_code 51 = .ok (.getstatic 25, 3) := by decide +kernel
theorem own_d_method_2_code_54 : decode method_2_code 54 = .ok (.areturn, 1) := by decide +kernel
theorem own_d_method_2_code_55 : decode method_2_code 55 = .ok (.iload_n 0, 1) := by decide +kernel
theorem own_d_method_2_code_56 : decode method_2_code 56 = .ok (.bipush 7, 2) := by decide +kernel
theorem own_d_method_2_code_58 : decode method_2_code 58 = .ok (.if_icmp .ne 7, 3) := by decide +kernel
theorem own_d_method_2_code_61 : decode method_2_code 61 = .ok (.getstatic 28, 3) := by decide +kernel
theorem own_d_method_2_code_64 : decode method_2_code 64 = .ok (.areturn, 1) := by decide +kernel
theorem own_d_method_2_code_65 : decode method_2_code 65 = .ok (.iload_n 0, 1) := by decide +kernel
theorem own_d_method_2_code_66 : decode method_2_code 66 = .ok (.bipush 8, 2) := by decide +kernel
theorem own_d_method_2_code_68 : decode method_2_code 68 = .ok (.if_icmp .ne 7, 3) := by decide +kernel
theorem own_d_method_2_code_71 : decode method_2_code 71 = .ok (.getstatic 31, 3) := by decide +kernel
theorem own_d_method_2_code_74 : decode method_2_code 74 = .ok (.areturn, 1) := by decide +kernel
theorem own_d_method_2_code_75 : decode method_2_code 75 = .ok (.iload_n 0, 1) := by decide +kernel
theorem own_d_method_2_code_76 : decode method_2_code 76 = .ok (.bipush 9, 2) := by decide +kernel
theorem own_d_method_2_code_78 : decode method_2_code 78 = .ok (.if_icmp .ne 7, 3) := by decide +kernel
theorem own_d_method_2_code_81 : decode method_2_code 81 = .ok (.getstatic 34, 3) := by decide +kernel
theorem own_d_method_2_code_84 : decode method_2_code 84 = .ok (.areturn, 1) := by decide +kernel
theorem own_d_method_2_code_85 : decode method_2_code 85 = .ok (.iload_n 0, 1) := by decide +kernel
theorem own_d_method_2_code_86 : decode method_2_code 86 = .ok (.bipush 10, 2) := by decide +kernel
theorem own_d_method_2_code_88 : decode method_2_code 88 = .ok (.if_icmp .ne 7, 3) := by decide +kernel
theorem own_d_method_2_code_91 : decode method_2_code 91 = .ok (.getstatic 37, 3) := by decide +kernel
theorem own_d_method_2_code_94 : decode method_2_code 94 = .ok (.areturn, 1) := by decide +kernel
theorem own_d_method_2_code_95 : decode method_2_code 95 = .ok (.iload_n 0, 1) := by decide +kernel
theorem own_d_method_2_code_96 : decode method_2_code 96 = .ok (.bipush 11, 2) := by decide +kernel
theorem own_d_method_2_code_98 : decode method_2_code 98 = .ok (.if_icmp .ne 7, 3) := by decide +kernel
theorem own_d_method_2_code_101 : decode method_2_code 101 = .ok (.getstatic 40, 3) := by decide +kernel
theorem own_d_method_2_code_104 : decode method_2_code 104 = .ok (.areturn, 1) := by decide +kernel
theorem own_d_method_2_code_105 : decode method_2_code 105 = .ok (.iload_n 0, 1) := by decide +kernel
theorem own_d_method_2_code_106 : decode method_2_code 106 = .ok (.bipush 12, 2) := by decide +kernel
theorem own_d_method_2_code_108 : decode method_2_code 108 = .ok (.if_icmp .ne 7, 3) := by decide +kernel
theorem own_d_method_2_code_111 : decode method_2_code 111 = .ok (.getstatic 43, 3) := by decide +kernel
theorem own_d_method_2_code_114 : decode method_2_code 114 = .ok (.areturn, 1) := by decide +kernel
theorem own_d_method_2_code_115 : decode method_2_code 115 = .ok (.iload_n 0, 1) := by decide +kernel
theorem own_d_method_2_code_116 : decode method_2_code 116 = .ok (.bipush 13, 2) := by decide +kernel
theorem own_d_method_2_code_118 : decode method_2_code 118 = .ok (.if_icmp .ne 7, 3) := by decide +kernel
theorem own_d_method_2_code_121 : decode method_2_code 121 = .ok (.getstatic 46, 3) := by decide +kernel
theorem own_d_method_2_code_124 : decode method_2_code 124 = .ok (.areturn, 1) := by decide +kernel
theorem own_d_method_2_code_125 : decode method_2_code 125 = .ok (.iload_n 0, 1) := by decide +kernel
theorem own_d_method_2_code_126 : decode method_2_code 126 = .ok (.bipush 14, 2) := by decide +kernel
theorem own_d_method_2_code_128 : decode method_2_code 128 = .ok (.if_icmp .ne 7, 3) := by decide +kernel
theorem own_d_method_2_code_131 : decode method_2_code 131 = .ok (.getstatic 49, 3) := by decide +kernel
theorem own_d_method_2_code_134 : decode method_2_code 134 = .ok (.areturn, 1) := by decide +kernel
theorem own_d_method_2_code_135 : decode method_2_code 135 = .ok (.iload_n 0, 1) := by decide +kernel
theorem own_d_method_2_code_136 : decode method_2_code 136 = .ok (.bipush 15, 2) := by decide +kernel
theorem own_d_method_2_code_138 : decode method_2_code 138 = .ok (.if_icmp .ne 7, 3) := by decide +kernel
theorem own_d_method_2_code_141 : decode method_2_code 141 = .ok (.getstatic 52, 3) := by decide +kernel
theorem own_d_method_2_code_144 : decode method_2_code 144 = .ok (.areturn, 1) := by decide +kernel
theorem own_d_method_2_code_145 : decode method_2_code 145 = .ok (.iload_n 0, 1) := by decide +kernel
theorem own_d_method_2_code_146 : decode method_2_code 146 = .ok (.bipush 16, 2) := by decide +kernel
theorem own_d_method_2_code_148 : decode method_2_code 148 = .ok (.if_icmp .ne 7, 3) := by decide +kernel
theorem own_d_method_2_code_151 : decode method_2_code 151 = .ok (.getstatic 55, 3) := by decide +kernel
theorem own_d_method_2_code_154 : decode method_2_code 154 = .ok (.areturn, 1) := by decide +kernel
theorem own_d_method_2_code_155 : decode method_2_code 155 = .ok (.iload_n 0, 1) := by decide +kernel
theorem own_d_method_2_code_156 : decode method_2_code 156 = .ok (.bipush 17, 2) := by decide +kernel
theorem own_d_method_2_code_158 : decode method_2_code 158 = .ok (.if_icmp .ne 7, 3) := by decide +kernel
theorem own_d_method_2_code_161 : decode method_2_code 161 = .ok (.getstatic 58, 3) := by decide +kernel
theorem own_d_method_2_code_164 : decode method_2_code 164 = .ok (.areturn, 1) := by decide +kernel
theorem own_d_method_2_code_165 : decode method_2_code 165 = .ok (.iload_n 0, 1) := by decide +kernel
theorem own_d_method_2_code_166 : decode method_2_code 166 = .ok (.bipush 18, 2) := by decide +kernel
theorem own_d_method_2_code_168 : decode method_2_code 168 = .ok (.if_icmp .ne 7, 3) := by decide +kernel
theorem own_d_method_2_code_171 : decode method_2_code 171 = .ok (.getstatic 61, 3) := by decide +kernel
theorem own_d_method_2_code_174 : decode method_2_code 174 = .ok (.areturn, 1) := by decide +kernel
theorem own_d_method_2_code_175 : decode method_2_code 175 = .ok (.iload_n 0, 1) := by decide +kernel
theorem own_d_method_2_code_176 : decode method_2_code 176 = .ok (.bipush 19, 2) := by decide +kernel
theorem own_d_method_2_code_178 : decode method_2_code 178 = .ok (.if_icmp .ne 7, 3) := by decide +kernel
theorem own_d_method_2_code_181 : decode method_2_code 181 = .ok (.getstatic 64, 3) := by decide +kernel
theorem own_d_method_2_code_184 : decode method_2_code 184 = .ok (.areturn, 1) := by decide +kernel
theorem own_d_method_2_code_185 : decode method_2_code 185 = .ok (.aconst_null, 1) := by decide +kernel
theorem own_d_method_2_code_186 : decode method_2_code 186 = .ok (.areturn, 1) := by decide +kernel
theorem own_ef_expected (m : MethodId) (x0 : Int32) : entryFrame m #[(.int x0)] 1 = mkF m 0 #[.val (.int x0)] [] := by first | (simp [entryFrame, mkF, argsToLocals, Value.category]; done) | rfl
def own_Q_expected (Z : State) (ix : Int32) (m1 m2 m3 m4 m5 m6 m7 m8 m9 m10 m11 m12 m13 m14 m15 m16 m17 m18 m19 kb : Addr) (ck : ClassId) (h0 : Heap) (n0 : Nat) (v : Option Value) (h : Heap) (L : List Loc) : Prop := v = some (own_K [.null, (.ref m1), (.ref m2), (.ref m3), (.ref m4), (.ref m5), (.ref m6), (.ref m7), (.ref m8), (.ref m9), (.ref m10), (.ref m11), (.ref m12), (.ref m13), (.ref m14), (.ref m15), (.ref m16), (.ref m17), (.ref m18), (.ref m19)] ix) ∧ Fr n0 L ∧ h = h0
theorem own_pn_com_example_feeder_feeder_client_FrameKindOfCodePinLaw : plainName "com/example/feeder/feeder/client/FrameKindOfCodePinLaw" = true := by first | (simp [plainName, overriddenIn]; done) | decide +kernel
set_option maxRecDepth 65536 in
set_option maxHeartbeats 40000000 in
theorem own_rm_expected (l : Launch) (Z : State) (a0 : Array Value) (hw : ∀ d ∈ tables_1, d.before a0 Z = true) (ws : List Jvm.Cond) (ix : Int32) (m1 m2 m3 m4 m5 m6 m7 m8 m9 m10 m11 m12 m13 m14 m15 m16 m17 m18 m19 kb : Addr) (ck : ClassId) (h0 : Heap) (n0 : Nat) (Z0 : n0 ≤ h0.size) (S_MESSAGE : Sta Z h0 "com/example/feeder/feeder/client/FrameKind" "MESSAGE" "Lcom/example/feeder/feeder/client/FrameKind;" (.ref m1)) (S_SUBSCRIBE : Sta Z h0 "com/example/feeder/feeder/client/FrameKind" "SUBSCRIBE" "Lcom/example/feeder/feeder/client/FrameKind;" (.ref m2)) (S_SUBSCRIBED : Sta Z h0 "com/example/feeder/feeder/client/FrameKind" "SUBSCRIBED" "Lcom/example/feeder/feeder/client/FrameKind;" (.ref m3)) (S_SYNC : Sta Z h0 "com/example/feeder/feeder/client/FrameKind" "SYNC" "Lcom/example/feeder/feeder/client/FrameKind;" (.ref m4)) (S_SYNCED : Sta Z h0 "com/example/feeder/feeder/client/FrameKind" "SYNCED" "Lcom/example/feeder/feeder/client/FrameKind;" (.ref m5)) (S_ERROR : Sta Z h0 "com/example/feeder/feeder/client/FrameKind" "ERROR" "Lcom/example/feeder/feeder/client/FrameKind;" (.ref m6)) (S_LINK : Sta Z h0 "com/example/feeder/feeder/client/FrameKind" "LINK" "Lcom/example/feeder/feeder/client/FrameKind;" (.ref m7)) (S_TAKING : Sta Z h0 "com/example/feeder/feeder/client/FrameKind" "TAKING" "Lcom/example/feeder/feeder/client/FrameKind;" (.ref m8)) (S_STATUS : Sta Z h0 "com/example/feeder/feeder/client/FrameKind" "STATUS" "Lcom/example/feeder/feeder/client/FrameKind;" (.ref m9)) (S_COUNTS : Sta Z h0 "com/example/feeder/feeder/client/FrameKind" "COUNTS" "Lcom/example/feeder/feeder/client/FrameKind;" (.ref m10)) (S_NODE_STATUS : Sta Z h0 "com/example/feeder/feeder/client/FrameKind" "NODE_STATUS" "Lcom/example/feeder/feeder/client/FrameKind;" (.ref m11)) (S_CHALLENGE : Sta Z h0 "com/example/feeder/feeder/client/FrameKind" "CHALLENGE" "Lcom/example/feeder/feeder/client/FrameKind;" (.ref m12)) (S_PROOF : Sta Z h0 "com/example/feeder/feeder/client/FrameKind" "PROOF" "Lcom/example/feeder/feeder/client/FrameKind;" (.ref m13)) (S_TOPIC_REFUSED : Sta Z h0 "com/example/feeder/feeder/client/FrameKind" "TOPIC_REFUSED" "Lcom/example/feeder/feeder/client/FrameKind;" (.ref m14)) (S_UNSUBSCRIBE : Sta Z h0 "com/example/feeder/feeder/client/FrameKind" "UNSUBSCRIBE" "Lcom/example/feeder/feeder/client/FrameKind;" (.ref m15)) (S_HELLO : Sta Z h0 "com/example/feeder/feeder/client/FrameKind" "HELLO" "Lcom/example/feeder/feeder/client/FrameKind;" (.ref m16)) (S_DELIVERED : Sta Z h0 "com/example/feeder/feeder/client/FrameKind" "DELIVERED" "Lcom/example/feeder/feeder/client/FrameKind;" (.ref m17)) (S_SUBSCRIBER_LOST : Sta Z h0 "com/example/feeder/feeder/client/FrameKind" "SUBSCRIBER_LOST" "Lcom/example/feeder/feeder/client/FrameKind;" (.ref m18)) (S_SUBSCRIBER_BACK : Sta Z h0 "com/example/feeder/feeder/client/FrameKind" "SUBSCRIBER_BACK" "Lcom/example/feeder/feeder/client/FrameKind;" (.ref m19)) (S_BY : Sta Z h0 "com/example/feeder/feeder/client/FrameKind" "BY_CODE" "[Lcom/example/feeder/feeder/client/FrameKind;" (.ref kb)) (V0 : Arv Z h0 kb ck (.object "com/example/feeder/feeder/client/FrameKind") (20 : Int32) [.null, (.ref m1), (.ref m2), (.ref m3), (.ref m4), (.ref m5), (.ref m6), (.ref m7), (.ref m8), (.ref m9), (.ref m10), (.ref m11), (.ref m12), (.ref m13), (.ref m14), (.ref m15), (.ref m16), (.ref m17), (.ref m18), (.ref m19)] .null) :
    MetFree l (⟨"com/example/feeder/feeder/client/FrameKindOfCodePinLaw", "expected", "(I)Lcom/example/feeder/feeder/client/FrameKind;"⟩ : MethodName) (head1 (Jvm.Cond.code (⟨"com/example/feeder/feeder/client/FrameKindOfCodePinLaw", "expected", "(I)Lcom/example/feeder/feeder/client/FrameKind;"⟩ : MethodName) method_2_code 1 (some (.object "com/example/feeder/feeder/client/FrameKind")) :: ws) ({ frames := 0, cells := 0, slots := 0, locals := 0 } : Room)) (fun a U => a = #[(.int ix)] ∧ Z.Warmed39 U.vm ∧ U.heap = h0) (fun _ _ _ _ _ => True) (fun _ U o U' => ∃ v L, o = .returned v ∧ own_Q_expected Z ix m1 m2 m3 m4 m5 m6 m7 m8 m9 m10 m11 m12 m13 m14 m15 m16 m17 m18 m19 kb ck h0 n0 v U'.heap L ∧ FrameEnd U o U' L ({ frames := 0, cells := 0, slots := 0, locals := 0 } : Room).cells ({ frames := 0, cells := 0, slots := 0, locals := 0 } : Room).slots) := by
  refine MetFree.of_bodySF (plainFor_of_name own_pn_com_example_feeder_feeder_client_FrameKindOfCodePinLaw) hisR ?_
  intro p e s m args below meth c s₁ Bd hml0 hP hKq_
  obtain ⟨rfl, hZ, hh⟩ := hP
  have hx := Bd.exec
  have hby := Bd.bytes
  have hml : c.maxLocals = 1 := hml0
  have hown : s.vm.findClass "com/example/feeder/feeder/client/FrameKindOfCodePinLaw" = some m.cls := findClass_of_methodNamed Bd.named
  have hnm := (name_of_methodNamed Bd.named Bd.method).1
  have X0 : Stand p l e ({ frames := 0, cells := 0, slots := 0, locals := 0 } : Room) s m #[(.int ix)] below meth c s₁ [] 0 0 := Stand.of_body Bd
  have e0 : s₁.heap = h0 := by rw [← hh, Bd.state]; rfl
  have N0 := Fr.nil n0
  have pre0 : ∀ t, Steps p.tables e below (s₁.setTop (mkF m 0 #[.val (.int ix)] [])) t → Steps p.tables e below (s₁.setTop (entryFrame m #[(.int ix)] 1)) t := fun t k => castTop (own_ef_expected m ix) k
  refine own_go pre0 ?_
  refine own_abs ?_
  intro Pf hPf
  have k1 : ∀ t, Steps p.tables e below (s₁.setTop (mkF m 2 #[.val (.int ix)] [(.int (1 : Int32)), (.int ix)])) t → Steps p.tables e below (s₁.setTop (mkF m 0 #[.val (.int ix)] [])) t := fun t k => by
    refine XS.iloadN X0.here hx rfl (hb hby own_d_method_2_code_0) rfl ?_
    show Steps p.tables e below (s₁.setTop (mkF m 1 #[.val (.int ix)] [(.int ix)])) _
    refine XS.iconst X0.here hx rfl (hb hby own_d_method_2_code_1) ?_
    show Steps p.tables e below (s₁.setTop (mkF m 2 #[.val (.int ix)] [(.int (1 : Int32)), (.int ix)])) _
    exact k
  refine own_go k1 ?_
  clear k1
  by_cases hc2_2 : ix = (1 : Int32)
  · skip
    have k3 : ∀ t, Steps p.tables e below (s₁.setTop (mkF m 5 #[.val (.int ix)] [])) t → Steps p.tables e below (s₁.setTop (mkF m 2 #[.val (.int ix)] [(.int (1 : Int32)), (.int ix)])) t := fun t k => by
      refine XS.icmpNo X0.here hx rfl (hb hby own_d_method_2_code_2) rfl (teq hc2_2).2 ?_
      show Steps p.tables e below (s₁.setTop (mkF m 5 #[.val (.int ix)] [])) _
      exact k
    refine own_go k3 ?_
    clear k3
    obtain ⟨T4, X4, e4, st4⟩ := getS2 X0 hx hZ hown (host := "") (Or.inl (hw _ (List.mem_of_getElem? (i := 26) rfl))) Via.refl e0 S_MESSAGE (g := (mkF m 5 #[.val (.int ix)] [])) rfl (hb hby own_d_method_2_code_5)
    refine own_go st4 ?_
    obtain ⟨fs, hr, hrun, hended, hW, hsame⟩ := X4.leave (v := some (.ref m1)) (fun h => by rw [Bd.returns] at h; cases h)
    refine ⟨_, _, retOut X4 hx Bd.returns rfl (Or.inr (Or.inr (Or.inr (Or.inr ⟨rfl, rfl, rfl⟩)))) (hb hby own_d_method_2_code_8) hr, hPf _ _ ⟨hrun, hended, _, _, rfl, ?_, ⟨_, rfl⟩, hW, hsame.mono (by decide) (by decide)⟩⟩
    show own_Q_expected Z ix m1 m2 m3 m4 m5 m6 m7 m8 m9 m10 m11 m12 m13 m14 m15 m16 m17 m18 m19 kb ck h0 n0 _ T4.heap _
    rw [e4]
    exact ⟨by rw [hc2_2]; rfl, N0, rfl⟩
  · skip
    have k5 : ∀ t, Steps p.tables e below (s₁.setTop (mkF m 11 #[.val (.int ix)] [(.int (2 : Int32)), (.int ix)])) t → Steps p.tables e below (s₁.setTop (mkF m 2 #[.val (.int ix)] [(.int (1 : Int32)), (.int ix)])) t := fun t k => by
      refine XS.icmpYes X0.here hx rfl (pc0 := 2) (pc' := 9) rfl (hb hby own_d_method_2_code_2) rfl (feq hc2_2).2 (by decide) (by decide) ?_
      show Steps p.tables e below (s₁.setTop (mkF m 9 #[.val (.int ix)] [])) _
      refine XS.iloadN X0.here hx rfl (hb hby own_d_method_2_code_9) rfl ?_
      show Steps p.tables e below (s₁.setTop (mkF m 10 #[.val (.int ix)] [(.int ix)])) _
      refine XS.iconst X0.here hx rfl (hb hby own_d_method_2_code_10) ?_
      show Steps p.tables e below (s₁.setTop (mkF m 11 #[.val (.int ix)] [(.int (2 : Int32)), (.int ix)])) _
      exact k
    refine own_go k5 ?_
    clear k5
    by_cases hc11_6 : ix = (2 : Int32)
    · skip
      have k7 : ∀ t, Steps p.tables e below (s₁.setTop (mkF m 14 #[.val (.int ix)] [])) t → Steps p.tables e below (s₁.setTop (mkF m 11 #[.val (.int ix)] [(.int (2 : Int32)), (.int ix)])) t := fun t k => by
        refine XS.icmpNo X0.here hx rfl (hb hby own_d_method_2_code_11) rfl (teq hc11_6).2 ?_
        show Steps p.tables e below (s₁.setTop (mkF m 14 #[.val (.int ix)] [])) _
        exact k
      refine own_go k7 ?_
      clear k7
      obtain ⟨T8, X8, e8, st8⟩ := getS2 X0 hx hZ hown (host := "") (Or.inl (hw _ (List.mem_of_getElem? (i := 30) rfl))) Via.refl e0 S_SUBSCRIBE (g := (mkF m 14 #[.val (.int ix)] [])) rfl (hb hby own_d_method_2_code_14)
      refine own_go st8 ?_
      obtain ⟨fs, hr, hrun, hended, hW, hsame⟩ := X8.leave (v := some (.ref m2)) (fun h => by rw [Bd.returns] at h; cases h)
      refine ⟨_, _, retOut X8 hx Bd.returns rfl (Or.inr (Or.inr (Or.inr (Or.inr ⟨rfl, rfl, rfl⟩)))) (hb hby own_d_method_2_code_17) hr, hPf _ _ ⟨hrun, hended, _, _, rfl, ?_, ⟨_, rfl⟩, hW, hsame.mono (by decide) (by decide)⟩⟩
      show own_Q_expected Z ix m1 m2 m3 m4 m5 m6 m7 m8 m9 m10 m11 m12 m13 m14 m15 m16 m17 m18 m19 kb ck h0 n0 _ T8.heap _
      rw [e8]
      exact ⟨by rw [hc11_6]; rfl, N0, rfl⟩
    · skip
      have k9 : ∀ t, Steps p.tables e below (s₁.setTop (mkF m 20 #[.val (.int ix)] [(.int (3 : Int32)), (.int ix)])) t → Steps p.tables e below (s₁.setTop (mkF m 11 #[.val (.int ix)] [(.int (2 : Int32)), (.int ix)])) t := fun t k => by
        refine XS.icmpYes X0.here hx rfl (pc0 := 11) (pc' := 18) rfl (hb hby own_d_method_2_code_11) rfl (feq hc11_6).2 (by decide) (by decide) ?_
        show Steps p.tables e below (s₁.setTop (mkF m 18 #[.val (.int ix)] [])) _
        refine XS.iloadN X0.here hx rfl (hb hby own_d_method_2_code_18) rfl ?_
        show Steps p.tables e below (s₁.setTop (mkF m 19 #[.val (.int ix)] [(.int ix)])) _
        refine XS.iconst X0.here hx rfl (hb hby own_d_method_2_code_19) ?_
        show Steps p.tables e below (s₁.setTop (mkF m 20 #[.val (.int ix)] [(.int (3 : Int32)), (.int ix)])) _
        exact k
      refine own_go k9 ?_
      clear k9
      by_cases hc20_10 : ix = (3 : Int32)
      · skip
        have k11 : ∀ t, Steps p.tables e below (s₁.setTop (mkF m 23 #[.val (.int ix)] [])) t → Steps p.tables e below (s₁.setTop (mkF m 20 #[.val (.int ix)] [(.int (3 : Int32)), (.int ix)])) t := fun t k => by
          refine XS.icmpNo X0.here hx rfl (hb hby own_d_method_2_code_20) rfl (teq hc20_10).2 ?_
          show Steps p.tables e below (s₁.setTop (mkF m 23 #[.val (.int ix)] [])) _
          exact k
        refine own_go k11 ?_
        clear k11
        obtain ⟨T12, X12, e12, st12⟩ := getS2 X0 hx hZ hown (host := "") (Or.inl (hw _ (List.mem_of_getElem? (i := 23) rfl))) Via.refl e0 S_SUBSCRIBED (g := (mkF m 23 #[.val (.int ix)] [])) rfl (hb hby own_d_method_2_code_23)
        refine own_go st12 ?_
        obtain ⟨fs, hr, hrun, hended, hW, hsame⟩ := X12.leave (v := some (.ref m3)) (fun h => by rw [Bd.returns] at h; cases h)
        refine ⟨_, _, retOut X12 hx Bd.returns rfl (Or.inr (Or.inr (Or.inr (Or.inr ⟨rfl, rfl, rfl⟩)))) (hb hby own_d_method_2_code_26) hr, hPf _ _ ⟨hrun, hended, _, _, rfl, ?_, ⟨_, rfl⟩, hW, hsame.mono (by decide) (by decide)⟩⟩
        show own_Q_expected Z ix m1 m2 m3 m4 m5 m6 m7 m8 m9 m10 m11 m12 m13 m14 m15 m16 m17 m18 m19 kb ck h0 n0 _ T12.heap _
        rw [e12]
        exact ⟨by rw [hc20_10]; rfl, N0, rfl⟩
      · skip
        have k13 : ∀ t, Steps p.tables e below (s₁.setTop (mkF m 29 #[.val (.int ix)] [(.int (4 : Int32)), (.int ix)])) t → Steps p.tables e below (s₁.setTop (mkF m 20 #[.val (.int ix)] [(.int (3 : Int32)), (.int ix)])) t := fun t k => by
          refine XS.icmpYes X0.here hx rfl (pc0 := 20) (pc' := 27) rfl (hb hby own_d_method_2_code_20) rfl (feq hc20_10).2 (by decide) (by decide) ?_
          show Steps p.tables e below (s₁.setTop (mkF m 27 #[.val (.int ix)] [])) _
          refine XS.iloadN X0.here hx rfl (hb hby own_d_method_2_code_27) rfl ?_
          show Steps p.tables e below (s₁.setTop (mkF m 28 #[.val (.int ix)] [(.int ix)])) _
          refine XS.iconst X0.here hx rfl (hb hby own_d_method_2_code_28) ?_
          show Steps p.tables e below (s₁.setTop (mkF m 29 #[.val (.int ix)] [(.int (4 : Int32)), (.int ix)])) _
          exact k
        refine own_go k13 ?_
        clear k13
        by_cases hc29_14 : ix = (4 : Int32)
        · skip
          have k15 : ∀ t, Steps p.tables e below (s₁.setTop (mkF m 32 #[.val (.int ix)] [])) t → Steps p.tables e below (s₁.setTop (mkF m 29 #[.val (.int ix)] [(.int (4 : Int32)), (.int ix)])) t := fun t k => by
            refine XS.icmpNo X0.here hx rfl (hb hby own_d_method_2_code_29) rfl (teq hc29_14).2 ?_
            show Steps p.tables e below (s₁.setTop (mkF m 32 #[.val (.int ix)] [])) _
            exact k
          refine own_go k15 ?_
          clear k15
          obtain ⟨T16, X16, e16, st16⟩ := getS2 X0 hx hZ hown (host := "") (Or.inl (hw _ (List.mem_of_getElem? (i := 32) rfl))) Via.refl e0 S_SYNC (g := (mkF m 32 #[.val (.int ix)] [])) rfl (hb hby own_d_method_2_code_32)
          refine own_go st16 ?_
          obtain ⟨fs, hr, hrun, hended, hW, hsame⟩ := X16.leave (v := some (.ref m4)) (fun h => by rw [Bd.returns] at h; cases h)
          refine ⟨_, _, retOut X16 hx Bd.returns rfl (Or.inr (Or.inr (Or.inr (Or.inr ⟨rfl, rfl, rfl⟩)))) (hb hby own_d_method_2_code_35) hr, hPf _ _ ⟨hrun, hended, _, _, rfl, ?_, ⟨_, rfl⟩, hW, hsame.mono (by decide) (by decide)⟩⟩
          show own_Q_expected Z ix m1 m2 m3 m4 m5 m6 m7 m8 m9 m10 m11 m12 m13 m14 m15 m16 m17 m18 m19 kb ck h0 n0 _ T16.heap _
          rw [e16]
          exact ⟨by rw [hc29_14]; rfl, N0, rfl⟩
        · skip
          have k17 : ∀ t, Steps p.tables e below (s₁.setTop (mkF m 38 #[.val (.int ix)] [(.int (5 : Int32)), (.int ix)])) t → Steps p.tables e below (s₁.setTop (mkF m 29 #[.val (.int ix)] [(.int (4 : Int32)), (.int ix)])) t := fun t k => by
            refine XS.icmpYes X0.here hx rfl (pc0 := 29) (pc' := 36) rfl (hb hby own_d_method_2_code_29) rfl (feq hc29_14).2 (by decide) (by decide) ?_
            show Steps p.tables e below (s₁.setTop (mkF m 36 #[.val (.int ix)] [])) _
            refine XS.iloadN X0.here hx rfl (hb hby own_d_method_2_code_36) rfl ?_
            show Steps p.tables e below (s₁.setTop (mkF m 37 #[.val (.int ix)] [(.int ix)])) _
            refine XS.iconst X0.here hx rfl (hb hby own_d_method_2_code_37) ?_
            show Steps p.tables e below (s₁.setTop (mkF m 38 #[.val (.int ix)] [(.int (5 : Int32)), (.int ix)])) _
            exact k
          refine own_go k17 ?_
          clear k17
          by_cases hc38_18 : ix = (5 : Int32)
          · skip
            have k19 : ∀ t, Steps p.tables e below (s₁.setTop (mkF m 41 #[.val (.int ix)] [])) t → Steps p.tables e below (s₁.setTop (mkF m 38 #[.val (.int ix)] [(.int (5 : Int32)), (.int ix)])) t := fun t k => by
              refine XS.icmpNo X0.here hx rfl (hb hby own_d_method_2_code_38) rfl (teq hc38_18).2 ?_
              show Steps p.tables e below (s₁.setTop (mkF m 41 #[.val (.int ix)] [])) _
              exact k
            refine own_go k19 ?_
            clear k19
            obtain ⟨T20, X20, e20, st20⟩ := getS2 X0 hx hZ hown (host := "") (Or.inl (hw _ (List.mem_of_getElem? (i := 39) rfl))) Via.refl e0 S_SYNCED (g := (mkF m 41 #[.val (.int ix)] [])) rfl (hb hby own_d_method_2_code_41)
            refine own_go st20 ?_
            obtain ⟨fs, hr, hrun, hended, hW, hsame⟩ := X20.leave (v := some (.ref m5)) (fun h => by rw [Bd.returns] at h; cases h)
            refine ⟨_, _, retOut X20 hx Bd.returns rfl (Or.inr (Or.inr (Or.inr (Or.inr ⟨rfl, rfl, rfl⟩)))) (hb hby own_d_method_2_code_44) hr, hPf _ _ ⟨hrun, hended, _, _, rfl, ?_, ⟨_, rfl⟩, hW, hsame.mono (by decide) (by decide)⟩⟩
            show own_Q_expected Z ix m1 m2 m3 m4 m5 m6 m7 m8 m9 m10 m11 m12 m13 m14 m15 m16 m17 m18 m19 kb ck h0 n0 _ T20.heap _
            rw [e20]
            exact ⟨by rw [hc38_18]; rfl, N0, rfl⟩
          · skip
            have k21 : ∀ t, Steps p.tables e below (s₁.setTop (mkF m 48 #[.val (.int ix)] [(.int (6 : Int32)), (.int ix)])) t → Steps p.tables e below (s₁.setTop (mkF m 38 #[.val (.int ix)] [(.int (5 : Int32)), (.int ix)])) t := fun t k => by
              refine XS.icmpYes X0.here hx rfl (pc0 := 38) (pc' := 45) rfl (hb hby own_d_method_2_code_38) rfl (feq hc38_18).2 (by decide) (by decide) ?_
              show Steps p.tables e below (s₁.setTop (mkF m 45 #[.val (.int ix)] [])) _
              refine XS.iloadN X0.here hx rfl (hb hby own_d_method_2_code_45) rfl ?_
              show Steps p.tables e below (s₁.setTop (mkF m 46 #[.val (.int ix)] [(.int ix)])) _
              refine XS.bipush X0.here hx rfl (hb hby own_d_method_2_code_46) ?_
              show Steps p.tables e below (s₁.setTop (mkF m 48 #[.val (.int ix)] [(.int (6 : Int32)), (.int ix)])) _
              exact k
            refine own_go k21 ?_
            clear k21
            by_cases hc48_22 : ix = (6 : Int32)
            · skip
              have k23 : ∀ t, Steps p.tables e below (s₁.setTop (mkF m 51 #[.val (.int ix)] [])) t → Steps p.tables e below (s₁.setTop (mkF m 48 #[.val (.int ix)] [(.int (6 : Int32)), (.int ix)])) t := fun t k => by
                refine XS.icmpNo X0.here hx rfl (hb hby own_d_method_2_code_48) rfl (teq hc48_22).2 ?_
                show Steps p.tables e below (s₁.setTop (mkF m 51 #[.val (.int ix)] [])) _
                exact k
              refine own_go k23 ?_
              clear k23
              obtain ⟨T24, X24, e24, st24⟩ := getS2 X0 hx hZ hown (host := "") (Or.inl (hw _ (List.mem_of_getElem? (i := 17) rfl))) Via.refl e0 S_ERROR (g := (mkF m 51 #[.val (.int ix)] [])) rfl (hb hby own_d_method_2_code_51)
              refine own_go st24 ?_
              obtain ⟨fs, hr, hrun, hended, hW, hsame⟩ := X24.leave (v := some (.ref m6)) (fun h => by rw [Bd.returns] at h; cases h)
              refine ⟨_, _, retOut X24 hx Bd.returns rfl (Or.inr (Or.inr (Or.inr (Or.inr ⟨rfl, rfl, rfl⟩)))) (hb hby own_d_method_2_code_54) hr, hPf _ _ ⟨hrun, hended, _, _, rfl, ?_, ⟨_, rfl⟩, hW, hsame.mono (by decide) (by decide)⟩⟩
              show own_Q_expected Z ix m1 m2 m3 m4 m5 m6 m7 m8 m9 m10 m11 m12 m13 m14 m15 m16 m17 m18 m19 kb ck h0 n0 _ T24.heap _
              rw [e24]
              exact ⟨by rw [hc48_22]; rfl, N0, rfl⟩
            · skip
              have k25 : ∀ t, Steps p.tables e below (s₁.setTop (mkF m 58 #[.val (.int ix)] [(.int (7 : Int32)), (.int ix)])) t → Steps p.tables e below (s₁.setTop (mkF m 48 #[.val (.int ix)] [(.int (6 : Int32)), (.int ix)])) t := fun t k => by
                refine XS.icmpYes X0.here hx rfl (pc0 := 48) (pc' := 55) rfl (hb hby own_d_method_2_code_48) rfl (feq hc48_22).2 (by decide) (by decide) ?_
                show Steps p.tables e below (s₁.setTop (mkF m 55 #[.val (.int ix)] [])) _
                refine XS.iloadN X0.here hx rfl (hb hby own_d_method_2_code_55) rfl ?_
                show Steps p.tables e below (s₁.setTop (mkF m 56 #[.val (.int ix)] [(.int ix)])) _
                refine XS.bipush X0.here hx rfl (hb hby own_d_method_2_code_56) ?_
                show Steps p.tables e below (s₁.setTop (mkF m 58 #[.val (.int ix)] [(.int (7 : Int32)), (.int ix)])) _
                exact k
              refine own_go k25 ?_
              clear k25
              by_cases hc58_26 : ix = (7 : Int32)
              · skip
                have k27 : ∀ t, Steps p.tables e below (s₁.setTop (mkF m 61 #[.val (.int ix)] [])) t → Steps p.tables e below (s₁.setTop (mkF m 58 #[.val (.int ix)] [(.int (7 : Int32)), (.int ix)])) t := fun t k => by
                  refine XS.icmpNo X0.here hx rfl (hb hby own_d_method_2_code_58) rfl (teq hc58_26).2 ?_
                  show Steps p.tables e below (s₁.setTop (mkF m 61 #[.val (.int ix)] [])) _
                  exact k
                refine own_go k27 ?_
                clear k27
                obtain ⟨T28, X28, e28, st28⟩ := getS2 X0 hx hZ hown (host := "") (Or.inl (hw _ (List.mem_of_getElem? (i := 15) rfl))) Via.refl e0 S_LINK (g := (mkF m 61 #[.val (.int ix)] [])) rfl (hb hby own_d_method_2_code_61)
                refine own_go st28 ?_
                obtain ⟨fs, hr, hrun, hended, hW, hsame⟩ := X28.leave (v := some (.ref m7)) (fun h => by rw [Bd.returns] at h; cases h)
                refine ⟨_, _, retOut X28 hx Bd.returns rfl (Or.inr (Or.inr (Or.inr (Or.inr ⟨rfl, rfl, rfl⟩)))) (hb hby own_d_method_2_code_64) hr, hPf _ _ ⟨hrun, hended, _, _, rfl, ?_, ⟨_, rfl⟩, hW, hsame.mono (by decide) (by decide)⟩⟩
                show own_Q_expected Z ix m1 m2 m3 m4 m5 m6 m7 m8 m9 m10 m11 m12 m13 m14 m15 m16 m17 m18 m19 kb ck h0 n0 _ T28.heap _
                rw [e28]
                exact ⟨by rw [hc58_26]; rfl, N0, rfl⟩
              · skip
                have k29 : ∀ t, Steps p.tables e below (s₁.setTop (mkF m 68 #[.val (.int ix)] [(.int (8 : Int32)), (.int ix)])) t → Steps p.tables e below (s₁.setTop (mkF m 58 #[.val (.int ix)] [(.int (7 : Int32)), (.int ix)])) t := fun t k => by
                  refine XS.icmpYes X0.here hx rfl (pc0 := 58) (pc' := 65) rfl (hb hby own_d_method_2_code_58) rfl (feq hc58_26).2 (by decide) (by decide) ?_
                  show Steps p.tables e below (s₁.setTop (mkF m 65 #[.val (.int ix)] [])) _
                  refine XS.iloadN X0.here hx rfl (hb hby own_d_method_2_code_65) rfl ?_
                  show Steps p.tables e below (s₁.setTop (mkF m 66 #[.val (.int ix)] [(.int ix)])) _
                  refine XS.bipush X0.here hx rfl (hb hby own_d_method_2_code_66) ?_
                  show Steps p.tables e below (s₁.setTop (mkF m 68 #[.val (.int ix)] [(.int (8 : Int32)), (.int ix)])) _
                  exact k
                refine own_go k29 ?_
                clear k29
                by_cases hc68_30 : ix = (8 : Int32)
                · skip
                  have k31 : ∀ t, Steps p.tables e below (s₁.setTop (mkF m 71 #[.val (.int ix)] [])) t → Steps p.tables e below (s₁.setTop (mkF m 68 #[.val (.int ix)] [(.int (8 : Int32)), (.int ix)])) t := fun t k => by
                    refine XS.icmpNo X0.here hx rfl (hb hby own_d_method_2_code_68) rfl (teq hc68_30).2 ?_
                    show Steps p.tables e below (s₁.setTop (mkF m 71 #[.val (.int ix)] [])) _
                    exact k
                  refine own_go k31 ?_
                  clear k31
                  obtain ⟨T32, X32, e32, st32⟩ := getS2 X0 hx hZ hown (host := "") (Or.inl (hw _ (List.mem_of_getElem? (i := 19) rfl))) Via.refl e0 S_TAKING (g := (mkF m 71 #[.val (.int ix)] [])) rfl (hb hby own_d_method_2_code_71)
                  refine own_go st32 ?_
                  obtain ⟨fs, hr, hrun, hended, hW, hsame⟩ := X32.leave (v := some (.ref m8)) (fun h => by rw [Bd.returns] at h; cases h)
                  refine ⟨_, _, retOut X32 hx Bd.returns rfl (Or.inr (Or.inr (Or.inr (Or.inr ⟨rfl, rfl, rfl⟩)))) (hb hby own_d_method_2_code_74) hr, hPf _ _ ⟨hrun, hended, _, _, rfl, ?_, ⟨_, rfl⟩, hW, hsame.mono (by decide) (by decide)⟩⟩
                  show own_Q_expected Z ix m1 m2 m3 m4 m5 m6 m7 m8 m9 m10 m11 m12 m13 m14 m15 m16 m17 m18 m19 kb ck h0 n0 _ T32.heap _
                  rw [e32]
                  exact ⟨by rw [hc68_30]; rfl, N0, rfl⟩
                · skip
                  have k33 : ∀ t, Steps p.tables e below (s₁.setTop (mkF m 78 #[.val (.int ix)] [(.int (9 : Int32)), (.int ix)])) t → Steps p.tables e below (s₁.setTop (mkF m 68 #[.val (.int ix)] [(.int (8 : Int32)), (.int ix)])) t := fun t k => by
                    refine XS.icmpYes X0.here hx rfl (pc0 := 68) (pc' := 75) rfl (hb hby own_d_method_2_code_68) rfl (feq hc68_30).2 (by decide) (by decide) ?_
                    show Steps p.tables e below (s₁.setTop (mkF m 75 #[.val (.int ix)] [])) _
                    refine XS.iloadN X0.here hx rfl (hb hby own_d_method_2_code_75) rfl ?_
                    show Steps p.tables e below (s₁.setTop (mkF m 76 #[.val (.int ix)] [(.int ix)])) _
                    refine XS.bipush X0.here hx rfl (hb hby own_d_method_2_code_76) ?_
                    show Steps p.tables e below (s₁.setTop (mkF m 78 #[.val (.int ix)] [(.int (9 : Int32)), (.int ix)])) _
                    exact k
                  refine own_go k33 ?_
                  clear k33
                  by_cases hc78_34 : ix = (9 : Int32)
                  · skip
                    have k35 : ∀ t, Steps p.tables e below (s₁.setTop (mkF m 81 #[.val (.int ix)] [])) t → Steps p.tables e below (s₁.setTop (mkF m 78 #[.val (.int ix)] [(.int (9 : Int32)), (.int ix)])) t := fun t k => by
                      refine XS.icmpNo X0.here hx rfl (hb hby own_d_method_2_code_78) rfl (teq hc78_34).2 ?_
                      show Steps p.tables e below (s₁.setTop (mkF m 81 #[.val (.int ix)] [])) _
                      exact k
                    refine own_go k35 ?_
                    clear k35
                    obtain ⟨T36, X36, e36, st36⟩ := getS2 X0 hx hZ hown (host := "") (Or.inl (hw _ (List.mem_of_getElem? (i := 40) rfl))) Via.refl e0 S_STATUS (g := (mkF m 81 #[.val (.int ix)] [])) rfl (hb hby own_d_method_2_code_81)
                    refine own_go st36 ?_
                    obtain ⟨fs, hr, hrun, hended, hW, hsame⟩ := X36.leave (v := some (.ref m9)) (fun h => by rw [Bd.returns] at h; cases h)
                    refine ⟨_, _, retOut X36 hx Bd.returns rfl (Or.inr (Or.inr (Or.inr (Or.inr ⟨rfl, rfl, rfl⟩)))) (hb hby own_d_method_2_code_84) hr, hPf _ _ ⟨hrun, hended, _, _, rfl, ?_, ⟨_, rfl⟩, hW, hsame.mono (by decide) (by decide)⟩⟩
                    show own_Q_expected Z ix m1 m2 m3 m4 m5 m6 m7 m8 m9 m10 m11 m12 m13 m14 m15 m16 m17 m18 m19 kb ck h0 n0 _ T36.heap _
                    rw [e36]
                    exact ⟨by rw [hc78_34]; rfl, N0, rfl⟩
                  · skip
                    have k37 : ∀ t, Steps p.tables e below (s₁.setTop (mkF m 88 #[.val (.int ix)] [(.int (10 : Int32)), (.int ix)])) t → Steps p.tables e below (s₁.setTop (mkF m 78 #[.val (.int ix)] [(.int (9 : Int32)), (.int ix)])) t := fun t k => by
                      refine XS.icmpYes X0.here hx rfl (pc0 := 78) (pc' := 85) rfl (hb hby own_d_method_2_code_78) rfl (feq hc78_34).2 (by decide) (by decide) ?_
                      show Steps p.tables e below (s₁.setTop (mkF m 85 #[.val (.int ix)] [])) _
                      refine XS.iloadN X0.here hx rfl (hb hby own_d_method_2_code_85) rfl ?_
                      show Steps p.tables e below (s₁.setTop (mkF m 86 #[.val (.int ix)] [(.int ix)])) _
                      refine XS.bipush X0.here hx rfl (hb hby own_d_method_2_code_86) ?_
                      show Steps p.tables e below (s₁.setTop (mkF m 88 #[.val (.int ix)] [(.int (10 : Int32)), (.int ix)])) _
                      exact k
                    refine own_go k37 ?_
                    clear k37
                    by_cases hc88_38 : ix = (10 : Int32)
                    · skip
                      have k39 : ∀ t, Steps p.tables e below (s₁.setTop (mkF m 91 #[.val (.int ix)] [])) t → Steps p.tables e below (s₁.setTop (mkF m 88 #[.val (.int ix)] [(.int (10 : Int32)), (.int ix)])) t := fun t k => by
                        refine XS.icmpNo X0.here hx rfl (hb hby own_d_method_2_code_88) rfl (teq hc88_38).2 ?_
                        show Steps p.tables e below (s₁.setTop (mkF m 91 #[.val (.int ix)] [])) _
                        exact k
                      refine own_go k39 ?_
                      clear k39
                      obtain ⟨T40, X40, e40, st40⟩ := getS2 X0 hx hZ hown (host := "") (Or.inl (hw _ (List.mem_of_getElem? (i := 34) rfl))) Via.refl e0 S_COUNTS (g := (mkF m 91 #[.val (.int ix)] [])) rfl (hb hby own_d_method_2_code_91)
                      refine own_go st40 ?_
                      obtain ⟨fs, hr, hrun, hended, hW, hsame⟩ := X40.leave (v := some (.ref m10)) (fun h => by rw [Bd.returns] at h; cases h)
                      refine ⟨_, _, retOut X40 hx Bd.returns rfl (Or.inr (Or.inr (Or.inr (Or.inr ⟨rfl, rfl, rfl⟩)))) (hb hby own_d_method_2_code_94) hr, hPf _ _ ⟨hrun, hended, _, _, rfl, ?_, ⟨_, rfl⟩, hW, hsame.mono (by decide) (by decide)⟩⟩
                      show own_Q_expected Z ix m1 m2 m3 m4 m5 m6 m7 m8 m9 m10 m11 m12 m13 m14 m15 m16 m17 m18 m19 kb ck h0 n0 _ T40.heap _
                      rw [e40]
                      exact ⟨by rw [hc88_38]; rfl, N0, rfl⟩
                    · skip
                      have k41 : ∀ t, Steps p.tables e below (s₁.setTop (mkF m 98 #[.val (.int ix)] [(.int (11 : Int32)), (.int ix)])) t → Steps p.tables e below (s₁.setTop (mkF m 88 #[.val (.int ix)] [(.int (10 : Int32)), (.int ix)])) t := fun t k => by
                        refine XS.icmpYes X0.here hx rfl (pc0 := 88) (pc' := 95) rfl (hb hby own_d_method_2_code_88) rfl (feq hc88_38).2 (by decide) (by decide) ?_
                        show Steps p.tables e below (s₁.setTop (mkF m 95 #[.val (.int ix)] [])) _
                        refine XS.iloadN X0.here hx rfl (hb hby own_d_method_2_code_95) rfl ?_
                        show Steps p.tables e below (s₁.setTop (mkF m 96 #[.val (.int ix)] [(.int ix)])) _
                        refine XS.bipush X0.here hx rfl (hb hby own_d_method_2_code_96) ?_
                        show Steps p.tables e below (s₁.setTop (mkF m 98 #[.val (.int ix)] [(.int (11 : Int32)), (.int ix)])) _
                        exact k
                      refine own_go k41 ?_
                      clear k41
                      by_cases hc98_42 : ix = (11 : Int32)
                      · skip
                        have k43 : ∀ t, Steps p.tables e below (s₁.setTop (mkF m 101 #[.val (.int ix)] [])) t → Steps p.tables e below (s₁.setTop (mkF m 98 #[.val (.int ix)] [(.int (11 : Int32)), (.int ix)])) t := fun t k => by
                          refine XS.icmpNo X0.here hx rfl (hb hby own_d_method_2_code_98) rfl (teq hc98_42).2 ?_
                          show Steps p.tables e below (s₁.setTop (mkF m 101 #[.val (.int ix)] [])) _
                          exact k
                        refine own_go k43 ?_
                        clear k43
                        obtain ⟨T44, X44, e44, st44⟩ := getS2 X0 hx hZ hown (host := "") (Or.inl (hw _ (List.mem_of_getElem? (i := 36) rfl))) Via.refl e0 S_NODE_STATUS (g := (mkF m 101 #[.val (.int ix)] [])) rfl (hb hby own_d_method_2_code_101)
                        refine own_go st44 ?_
                        obtain ⟨fs, hr, hrun, hended, hW, hsame⟩ := X44.leave (v := some (.ref m11)) (fun h => by rw [Bd.returns] at h; cases h)
                        refine ⟨_, _, retOut X44 hx Bd.returns rfl (Or.inr (Or.inr (Or.inr (Or.inr ⟨rfl, rfl, rfl⟩)))) (hb hby own_d_method_2_code_104) hr, hPf _ _ ⟨hrun, hended, _, _, rfl, ?_, ⟨_, rfl⟩, hW, hsame.mono (by decide) (by decide)⟩⟩
                        show own_Q_expected Z ix m1 m2 m3 m4 m5 m6 m7 m8 m9 m10 m11 m12 m13 m14 m15 m16 m17 m18 m19 kb ck h0 n0 _ T44.heap _
                        rw [e44]
                        exact ⟨by rw [hc98_42]; rfl, N0, rfl⟩
                      · skip
                        have k45 : ∀ t, Steps p.tables e below (s₁.setTop (mkF m 108 #[.val (.int ix)] [(.int (12 : Int32)), (.int ix)])) t → Steps p.tables e below (s₁.setTop (mkF m 98 #[.val (.int ix)] [(.int (11 : Int32)), (.int ix)])) t := fun t k => by
                          refine XS.icmpYes X0.here hx rfl (pc0 := 98) (pc' := 105) rfl (hb hby own_d_method_2_code_98) rfl (feq hc98_42).2 (by decide) (by decide) ?_
                          show Steps p.tables e below (s₁.setTop (mkF m 105 #[.val (.int ix)] [])) _
                          refine XS.iloadN X0.here hx rfl (hb hby own_d_method_2_code_105) rfl ?_
                          show Steps p.tables e below (s₁.setTop (mkF m 106 #[.val (.int ix)] [(.int ix)])) _
                          refine XS.bipush X0.here hx rfl (hb hby own_d_method_2_code_106) ?_
                          show Steps p.tables e below (s₁.setTop (mkF m 108 #[.val (.int ix)] [(.int (12 : Int32)), (.int ix)])) _
                          exact k
                        refine own_go k45 ?_
                        clear k45
                        by_cases hc108_46 : ix = (12 : Int32)
                        · skip
                          have k47 : ∀ t, Steps p.tables e below (s₁.setTop (mkF m 111 #[.val (.int ix)] [])) t → Steps p.tables e below (s₁.setTop (mkF m 108 #[.val (.int ix)] [(.int (12 : Int32)), (.int ix)])) t := fun t k => by
                            refine XS.icmpNo X0.here hx rfl (hb hby own_d_method_2_code_108) rfl (teq hc108_46).2 ?_
                            show Steps p.tables e below (s₁.setTop (mkF m 111 #[.val (.int ix)] [])) _
                            exact k
                          refine own_go k47 ?_
                          clear k47
                          obtain ⟨T48, X48, e48, st48⟩ := getS2 X0 hx hZ hown (host := "") (Or.inl (hw _ (List.mem_of_getElem? (i := 21) rfl))) Via.refl e0 S_CHALLENGE (g := (mkF m 111 #[.val (.int ix)] [])) rfl (hb hby own_d_method_2_code_111)
                          refine own_go st48 ?_
                          obtain ⟨fs, hr, hrun, hended, hW, hsame⟩ := X48.leave (v := some (.ref m12)) (fun h => by rw [Bd.returns] at h; cases h)
                          refine ⟨_, _, retOut X48 hx Bd.returns rfl (Or.inr (Or.inr (Or.inr (Or.inr ⟨rfl, rfl, rfl⟩)))) (hb hby own_d_method_2_code_114) hr, hPf _ _ ⟨hrun, hended, _, _, rfl, ?_, ⟨_, rfl⟩, hW, hsame.mono (by decide) (by decide)⟩⟩
                          show own_Q_expected Z ix m1 m2 m3 m4 m5 m6 m7 m8 m9 m10 m11 m12 m13 m14 m15 m16 m17 m18 m19 kb ck h0 n0 _ T48.heap _
                          rw [e48]
                          exact ⟨by rw [hc108_46]; rfl, N0, rfl⟩
                        · skip
                          have k49 : ∀ t, Steps p.tables e below (s₁.setTop (mkF m 118 #[.val (.int ix)] [(.int (13 : Int32)), (.int ix)])) t → Steps p.tables e below (s₁.setTop (mkF m 108 #[.val (.int ix)] [(.int (12 : Int32)), (.int ix)])) t := fun t k => by
                            refine XS.icmpYes X0.here hx rfl (pc0 := 108) (pc' := 115) rfl (hb hby own_d_method_2_code_108) rfl (feq hc108_46).2 (by decide) (by decide) ?_
                            show Steps p.tables e below (s₁.setTop (mkF m 115 #[.val (.int ix)] [])) _
                            refine XS.iloadN X0.here hx rfl (hb hby own_d_method_2_code_115) rfl ?_
                            show Steps p.tables e below (s₁.setTop (mkF m 116 #[.val (.int ix)] [(.int ix)])) _
                            refine XS.bipush X0.here hx rfl (hb hby own_d_method_2_code_116) ?_
                            show Steps p.tables e below (s₁.setTop (mkF m 118 #[.val (.int ix)] [(.int (13 : Int32)), (.int ix)])) _
                            exact k
                          refine own_go k49 ?_
                          clear k49
                          by_cases hc118_50 : ix = (13 : Int32)
                          · skip
                            have k51 : ∀ t, Steps p.tables e below (s₁.setTop (mkF m 121 #[.val (.int ix)] [])) t → Steps p.tables e below (s₁.setTop (mkF m 118 #[.val (.int ix)] [(.int (13 : Int32)), (.int ix)])) t := fun t k => by
                              refine XS.icmpNo X0.here hx rfl (hb hby own_d_method_2_code_118) rfl (teq hc118_50).2 ?_
                              show Steps p.tables e below (s₁.setTop (mkF m 121 #[.val (.int ix)] [])) _
                              exact k
                            refine own_go k51 ?_
                            clear k51
                            obtain ⟨T52, X52, e52, st52⟩ := getS2 X0 hx hZ hown (host := "") (Or.inl (hw _ (List.mem_of_getElem? (i := 46) rfl))) Via.refl e0 S_PROOF (g := (mkF m 121 #[.val (.int ix)] [])) rfl (hb hby own_d_method_2_code_121)
                            refine own_go st52 ?_
                            obtain ⟨fs, hr, hrun, hended, hW, hsame⟩ := X52.leave (v := some (.ref m13)) (fun h => by rw [Bd.returns] at h; cases h)
                            refine ⟨_, _, retOut X52 hx Bd.returns rfl (Or.inr (Or.inr (Or.inr (Or.inr ⟨rfl, rfl, rfl⟩)))) (hb hby own_d_method_2_code_124) hr, hPf _ _ ⟨hrun, hended, _, _, rfl, ?_, ⟨_, rfl⟩, hW, hsame.mono (by decide) (by decide)⟩⟩
                            show own_Q_expected Z ix m1 m2 m3 m4 m5 m6 m7 m8 m9 m10 m11 m12 m13 m14 m15 m16 m17 m18 m19 kb ck h0 n0 _ T52.heap _
                            rw [e52]
                            exact ⟨by rw [hc118_50]; rfl, N0, rfl⟩
                          · skip
                            have k53 : ∀ t, Steps p.tables e below (s₁.setTop (mkF m 128 #[.val (.int ix)] [(.int (14 : Int32)), (.int ix)])) t → Steps p.tables e below (s₁.setTop (mkF m 118 #[.val (.int ix)] [(.int (13 : Int32)), (.int ix)])) t := fun t k => by
                              refine XS.icmpYes X0.here hx rfl (pc0 := 118) (pc' := 125) rfl (hb hby own_d_method_2_code_118) rfl (feq hc118_50).2 (by decide) (by decide) ?_
                              show Steps p.tables e below (s₁.setTop (mkF m 125 #[.val (.int ix)] [])) _
                              refine XS.iloadN X0.here hx rfl (hb hby own_d_method_2_code_125) rfl ?_
                              show Steps p.tables e below (s₁.setTop (mkF m 126 #[.val (.int ix)] [(.int ix)])) _
                              refine XS.bipush X0.here hx rfl (hb hby own_d_method_2_code_126) ?_
                              show Steps p.tables e below (s₁.setTop (mkF m 128 #[.val (.int ix)] [(.int (14 : Int32)), (.int ix)])) _
                              exact k
                            refine own_go k53 ?_
                            clear k53
                            by_cases hc128_54 : ix = (14 : Int32)
                            · skip
                              have k55 : ∀ t, Steps p.tables e below (s₁.setTop (mkF m 131 #[.val (.int ix)] [])) t → Steps p.tables e below (s₁.setTop (mkF m 128 #[.val (.int ix)] [(.int (14 : Int32)), (.int ix)])) t := fun t k => by
                                refine XS.icmpNo X0.here hx rfl (hb hby own_d_method_2_code_128) rfl (teq hc128_54).2 ?_
                                show Steps p.tables e below (s₁.setTop (mkF m 131 #[.val (.int ix)] [])) _
                                exact k
                              refine own_go k55 ?_
                              clear k55
                              obtain ⟨T56, X56, e56, st56⟩ := getS2 X0 hx hZ hown (host := "") (Or.inl (hw _ (List.mem_of_getElem? (i := 13) rfl))) Via.refl e0 S_TOPIC_REFUSED (g := (mkF m 131 #[.val (.int ix)] [])) rfl (hb hby own_d_method_2_code_131)
                              refine own_go st56 ?_
                              obtain ⟨fs, hr, hrun, hended, hW, hsame⟩ := X56.leave (v := some (.ref m14)) (fun h => by rw [Bd.returns] at h; cases h)
                              refine ⟨_, _, retOut X56 hx Bd.returns rfl (Or.inr (Or.inr (Or.inr (Or.inr ⟨rfl, rfl, rfl⟩)))) (hb hby own_d_method_2_code_134) hr, hPf _ _ ⟨hrun, hended, _, _, rfl, ?_, ⟨_, rfl⟩, hW, hsame.mono (by decide) (by decide)⟩⟩
                              show own_Q_expected Z ix m1 m2 m3 m4 m5 m6 m7 m8 m9 m10 m11 m12 m13 m14 m15 m16 m17 m18 m19 kb ck h0 n0 _ T56.heap _
                              rw [e56]
                              exact ⟨by rw [hc128_54]; rfl, N0, rfl⟩
                            · skip
                              have k57 : ∀ t, Steps p.tables e below (s₁.setTop (mkF m 138 #[.val (.int ix)] [(.int (15 : Int32)), (.int ix)])) t → Steps p.tables e below (s₁.setTop (mkF m 128 #[.val (.int ix)] [(.int (14 : Int32)), (.int ix)])) t := fun t k => by
                                refine XS.icmpYes X0.here hx rfl (pc0 := 128) (pc' := 135) rfl (hb hby own_d_method_2_code_128) rfl (feq hc128_54).2 (by decide) (by decide) ?_
                                show Steps p.tables e below (s₁.setTop (mkF m 135 #[.val (.int ix)] [])) _
                                refine XS.iloadN X0.here hx rfl (hb hby own_d_method_2_code_135) rfl ?_
                                show Steps p.tables e below (s₁.setTop (mkF m 136 #[.val (.int ix)] [(.int ix)])) _
                                refine XS.bipush X0.here hx rfl (hb hby own_d_method_2_code_136) ?_
                                show Steps p.tables e below (s₁.setTop (mkF m 138 #[.val (.int ix)] [(.int (15 : Int32)), (.int ix)])) _
                                exact k
                              refine own_go k57 ?_
                              clear k57
                              by_cases hc138_58 : ix = (15 : Int32)
                              · skip
                                have k59 : ∀ t, Steps p.tables e below (s₁.setTop (mkF m 141 #[.val (.int ix)] [])) t → Steps p.tables e below (s₁.setTop (mkF m 138 #[.val (.int ix)] [(.int (15 : Int32)), (.int ix)])) t := fun t k => by
                                  refine XS.icmpNo X0.here hx rfl (hb hby own_d_method_2_code_138) rfl (teq hc138_58).2 ?_
                                  show Steps p.tables e below (s₁.setTop (mkF m 141 #[.val (.int ix)] [])) _
                                  exact k
                                refine own_go k59 ?_
                                clear k59
                                obtain ⟨T60, X60, e60, st60⟩ := getS2 X0 hx hZ hown (host := "") (Or.inl (hw _ (List.mem_of_getElem? (i := 48) rfl))) Via.refl e0 S_UNSUBSCRIBE (g := (mkF m 141 #[.val (.int ix)] [])) rfl (hb hby own_d_method_2_code_141)
                                refine own_go st60 ?_
                                obtain ⟨fs, hr, hrun, hended, hW, hsame⟩ := X60.leave (v := some (.ref m15)) (fun h => by rw [Bd.returns] at h; cases h)
                                refine ⟨_, _, retOut X60 hx Bd.returns rfl (Or.inr (Or.inr (Or.inr (Or.inr ⟨rfl, rfl, rfl⟩)))) (hb hby own_d_method_2_code_144) hr, hPf _ _ ⟨hrun, hended, _, _, rfl, ?_, ⟨_, rfl⟩, hW, hsame.mono (by decide) (by decide)⟩⟩
                                show own_Q_expected Z ix m1 m2 m3 m4 m5 m6 m7 m8 m9 m10 m11 m12 m13 m14 m15 m16 m17 m18 m19 kb ck h0 n0 _ T60.heap _
                                rw [e60]
                                exact ⟨by rw [hc138_58]; rfl, N0, rfl⟩
                              · skip
                                have k61 : ∀ t, Steps p.tables e below (s₁.setTop (mkF m 148 #[.val (.int ix)] [(.int (16 : Int32)), (.int ix)])) t → Steps p.tables e below (s₁.setTop (mkF m 138 #[.val (.int ix)] [(.int (15 : Int32)), (.int ix)])) t := fun t k => by
                                  refine XS.icmpYes X0.here hx rfl (pc0 := 138) (pc' := 145) rfl (hb hby own_d_method_2_code_138) rfl (feq hc138_58).2 (by decide) (by decide) ?_
                                  show Steps p.tables e below (s₁.setTop (mkF m 145 #[.val (.int ix)] [])) _
                                  refine XS.iloadN X0.here hx rfl (hb hby own_d_method_2_code_145) rfl ?_
                                  show Steps p.tables e below (s₁.setTop (mkF m 146 #[.val (.int ix)] [(.int ix)])) _
                                  refine XS.bipush X0.here hx rfl (hb hby own_d_method_2_code_146) ?_
                                  show Steps p.tables e below (s₁.setTop (mkF m 148 #[.val (.int ix)] [(.int (16 : Int32)), (.int ix)])) _
                                  exact k
                                refine own_go k61 ?_
                                clear k61
                                by_cases hc148_62 : ix = (16 : Int32)
                                · skip
                                  have k63 : ∀ t, Steps p.tables e below (s₁.setTop (mkF m 151 #[.val (.int ix)] [])) t → Steps p.tables e below (s₁.setTop (mkF m 148 #[.val (.int ix)] [(.int (16 : Int32)), (.int ix)])) t := fun t k => by
                                    refine XS.icmpNo X0.here hx rfl (hb hby own_d_method_2_code_148) rfl (teq hc148_62).2 ?_
                                    show Steps p.tables e below (s₁.setTop (mkF m 151 #[.val (.int ix)] [])) _
                                    exact k
                                  refine own_go k63 ?_
                                  clear k63
                                  obtain ⟨T64, X64, e64, st64⟩ := getS2 X0 hx hZ hown (host := "") (Or.inl (hw _ (List.mem_of_getElem? (i := 44) rfl))) Via.refl e0 S_HELLO (g := (mkF m 151 #[.val (.int ix)] [])) rfl (hb hby own_d_method_2_code_151)
                                  refine own_go st64 ?_
                                  obtain ⟨fs, hr, hrun, hended, hW, hsame⟩ := X64.leave (v := some (.ref m16)) (fun h => by rw [Bd.returns] at h; cases h)
                                  refine ⟨_, _, retOut X64 hx Bd.returns rfl (Or.inr (Or.inr (Or.inr (Or.inr ⟨rfl, rfl, rfl⟩)))) (hb hby own_d_method_2_code_154) hr, hPf _ _ ⟨hrun, hended, _, _, rfl, ?_, ⟨_, rfl⟩, hW, hsame.mono (by decide) (by decide)⟩⟩
                                  show own_Q_expected Z ix m1 m2 m3 m4 m5 m6 m7 m8 m9 m10 m11 m12 m13 m14 m15 m16 m17 m18 m19 kb ck h0 n0 _ T64.heap _
                                  rw [e64]
                                  exact ⟨by rw [hc148_62]; rfl, N0, rfl⟩
                                · skip
                                  have k65 : ∀ t, Steps p.tables e below (s₁.setTop (mkF m 158 #[.val (.int ix)] [(.int (17 : Int32)), (.int ix)])) t → Steps p.tables e below (s₁.setTop (mkF m 148 #[.val (.int ix)] [(.int (16 : Int32)), (.int ix)])) t := fun t k => by
                                    refine XS.icmpYes X0.here hx rfl (pc0 := 148) (pc' := 155) rfl (hb hby own_d_method_2_code_148) rfl (feq hc148_62).2 (by decide) (by decide) ?_
                                    show Steps p.tables e below (s₁.setTop (mkF m 155 #[.val (.int ix)] [])) _
                                    refine XS.iloadN X0.here hx rfl (hb hby own_d_method_2_code_155) rfl ?_
                                    show Steps p.tables e below (s₁.setTop (mkF m 156 #[.val (.int ix)] [(.int ix)])) _
                                    refine XS.bipush X0.here hx rfl (hb hby own_d_method_2_code_156) ?_
                                    show Steps p.tables e below (s₁.setTop (mkF m 158 #[.val (.int ix)] [(.int (17 : Int32)), (.int ix)])) _
                                    exact k
                                  refine own_go k65 ?_
                                  clear k65
                                  by_cases hc158_66 : ix = (17 : Int32)
                                  · skip
                                    have k67 : ∀ t, Steps p.tables e below (s₁.setTop (mkF m 161 #[.val (.int ix)] [])) t → Steps p.tables e below (s₁.setTop (mkF m 158 #[.val (.int ix)] [(.int (17 : Int32)), (.int ix)])) t := fun t k => by
                                      refine XS.icmpNo X0.here hx rfl (hb hby own_d_method_2_code_158) rfl (teq hc158_66).2 ?_
                                      show Steps p.tables e below (s₁.setTop (mkF m 161 #[.val (.int ix)] [])) _
                                      exact k
                                    refine own_go k67 ?_
                                    clear k67
                                    obtain ⟨T68, X68, e68, st68⟩ := getS2 X0 hx hZ hown (host := "") (Or.inl (hw _ (List.mem_of_getElem? (i := 25) rfl))) Via.refl e0 S_DELIVERED (g := (mkF m 161 #[.val (.int ix)] [])) rfl (hb hby own_d_method_2_code_161)
                                    refine own_go st68 ?_
                                    obtain ⟨fs, hr, hrun, hended, hW, hsame⟩ := X68.leave (v := some (.ref m17)) (fun h => by rw [Bd.returns] at h; cases h)
                                    refine ⟨_, _, retOut X68 hx Bd.returns rfl (Or.inr (Or.inr (Or.inr (Or.inr ⟨rfl, rfl, rfl⟩)))) (hb hby own_d_method_2_code_164) hr, hPf _ _ ⟨hrun, hended, _, _, rfl, ?_, ⟨_, rfl⟩, hW, hsame.mono (by decide) (by decide)⟩⟩
                                    show own_Q_expected Z ix m1 m2 m3 m4 m5 m6 m7 m8 m9 m10 m11 m12 m13 m14 m15 m16 m17 m18 m19 kb ck h0 n0 _ T68.heap _
                                    rw [e68]
                                    exact ⟨by rw [hc158_66]; rfl, N0, rfl⟩
                                  · skip
                                    have k69 : ∀ t, Steps p.tables e below (s₁.setTop (mkF m 168 #[.val (.int ix)] [(.int (18 : Int32)), (.int ix)])) t → Steps p.tables e below (s₁.setTop (mkF m 158 #[.val (.int ix)] [(.int (17 : Int32)), (.int ix)])) t := fun t k => by
                                      refine XS.icmpYes X0.here hx rfl (pc0 := 158) (pc' := 165) rfl (hb hby own_d_method_2_code_158) rfl (feq hc158_66).2 (by decide) (by decide) ?_
                                      show Steps p.tables e below (s₁.setTop (mkF m 165 #[.val (.int ix)] [])) _
                                      refine XS.iloadN X0.here hx rfl (hb hby own_d_method_2_code_165) rfl ?_
                                      show Steps p.tables e below (s₁.setTop (mkF m 166 #[.val (.int ix)] [(.int ix)])) _
                                      refine XS.bipush X0.here hx rfl (hb hby own_d_method_2_code_166) ?_
                                      show Steps p.tables e below (s₁.setTop (mkF m 168 #[.val (.int ix)] [(.int (18 : Int32)), (.int ix)])) _
                                      exact k
                                    refine own_go k69 ?_
                                    clear k69
                                    by_cases hc168_70 : ix = (18 : Int32)
                                    · skip
                                      have k71 : ∀ t, Steps p.tables e below (s₁.setTop (mkF m 171 #[.val (.int ix)] [])) t → Steps p.tables e below (s₁.setTop (mkF m 168 #[.val (.int ix)] [(.int (18 : Int32)), (.int ix)])) t := fun t k => by
                                        refine XS.icmpNo X0.here hx rfl (hb hby own_d_method_2_code_168) rfl (teq hc168_70).2 ?_
                                        show Steps p.tables e below (s₁.setTop (mkF m 171 #[.val (.int ix)] [])) _
                                        exact k
                                      refine own_go k71 ?_
                                      clear k71
                                      obtain ⟨T72, X72, e72, st72⟩ := getS2 X0 hx hZ hown (host := "") (Or.inl (hw _ (List.mem_of_getElem? (i := 42) rfl))) Via.refl e0 S_SUBSCRIBER_LOST (g := (mkF m 171 #[.val (.int ix)] [])) rfl (hb hby own_d_method_2_code_171)
                                      refine own_go st72 ?_
                                      obtain ⟨fs, hr, hrun, hended, hW, hsame⟩ := X72.leave (v := some (.ref m18)) (fun h => by rw [Bd.returns] at h; cases h)
                                      refine ⟨_, _, retOut X72 hx Bd.returns rfl (Or.inr (Or.inr (Or.inr (Or.inr ⟨rfl, rfl, rfl⟩)))) (hb hby own_d_method_2_code_174) hr, hPf _ _ ⟨hrun, hended, _, _, rfl, ?_, ⟨_, rfl⟩, hW, hsame.mono (by decide) (by decide)⟩⟩
                                      show own_Q_expected Z ix m1 m2 m3 m4 m5 m6 m7 m8 m9 m10 m11 m12 m13 m14 m15 m16 m17 m18 m19 kb ck h0 n0 _ T72.heap _
                                      rw [e72]
                                      exact ⟨by rw [hc168_70]; rfl, N0, rfl⟩
                                    · skip
                                      have k73 : ∀ t, Steps p.tables e below (s₁.setTop (mkF m 178 #[.val (.int ix)] [(.int (19 : Int32)), (.int ix)])) t → Steps p.tables e below (s₁.setTop (mkF m 168 #[.val (.int ix)] [(.int (18 : Int32)), (.int ix)])) t := fun t k => by
                                        refine XS.icmpYes X0.here hx rfl (pc0 := 168) (pc' := 175) rfl (hb hby own_d_method_2_code_168) rfl (feq hc168_70).2 (by decide) (by decide) ?_
                                        show Steps p.tables e below (s₁.setTop (mkF m 175 #[.val (.int ix)] [])) _
                                        refine XS.iloadN X0.here hx rfl (hb hby own_d_method_2_code_175) rfl ?_
                                        show Steps p.tables e below (s₁.setTop (mkF m 176 #[.val (.int ix)] [(.int ix)])) _
                                        refine XS.bipush X0.here hx rfl (hb hby own_d_method_2_code_176) ?_
                                        show Steps p.tables e below (s₁.setTop (mkF m 178 #[.val (.int ix)] [(.int (19 : Int32)), (.int ix)])) _
                                        exact k
                                      refine own_go k73 ?_
                                      clear k73
                                      by_cases hc178_74 : ix = (19 : Int32)
                                      · skip
                                        have k75 : ∀ t, Steps p.tables e below (s₁.setTop (mkF m 181 #[.val (.int ix)] [])) t → Steps p.tables e below (s₁.setTop (mkF m 178 #[.val (.int ix)] [(.int (19 : Int32)), (.int ix)])) t := fun t k => by
                                          refine XS.icmpNo X0.here hx rfl (hb hby own_d_method_2_code_178) rfl (teq hc178_74).2 ?_
                                          show Steps p.tables e below (s₁.setTop (mkF m 181 #[.val (.int ix)] [])) _
                                          exact k
                                        refine own_go k75 ?_
                                        clear k75
                                        obtain ⟨T76, X76, e76, st76⟩ := getS2 X0 hx hZ hown (host := "") (Or.inl (hw _ (List.mem_of_getElem? (i := 28) rfl))) Via.refl e0 S_SUBSCRIBER_BACK (g := (mkF m 181 #[.val (.int ix)] [])) rfl (hb hby own_d_method_2_code_181)
                                        refine own_go st76 ?_
                                        obtain ⟨fs, hr, hrun, hended, hW, hsame⟩ := X76.leave (v := some (.ref m19)) (fun h => by rw [Bd.returns] at h; cases h)
                                        refine ⟨_, _, retOut X76 hx Bd.returns rfl (Or.inr (Or.inr (Or.inr (Or.inr ⟨rfl, rfl, rfl⟩)))) (hb hby own_d_method_2_code_184) hr, hPf _ _ ⟨hrun, hended, _, _, rfl, ?_, ⟨_, rfl⟩, hW, hsame.mono (by decide) (by decide)⟩⟩
                                        show own_Q_expected Z ix m1 m2 m3 m4 m5 m6 m7 m8 m9 m10 m11 m12 m13 m14 m15 m16 m17 m18 m19 kb ck h0 n0 _ T76.heap _
                                        rw [e76]
                                        exact ⟨by rw [hc178_74]; rfl, N0, rfl⟩
                                      · skip
                                        have k77 : ∀ t, Steps p.tables e below (s₁.setTop (mkF m 186 #[.val (.int ix)] [.null])) t → Steps p.tables e below (s₁.setTop (mkF m 178 #[.val (.int ix)] [(.int (19 : Int32)), (.int ix)])) t := fun t k => by
                                          refine XS.icmpYes X0.here hx rfl (pc0 := 178) (pc' := 185) rfl (hb hby own_d_method_2_code_178) rfl (feq hc178_74).2 (by decide) (by decide) ?_
                                          show Steps p.tables e below (s₁.setTop (mkF m 185 #[.val (.int ix)] [])) _
                                          refine XS.aconstNull X0.here hx rfl (hb hby own_d_method_2_code_185) ?_
                                          show Steps p.tables e below (s₁.setTop (mkF m 186 #[.val (.int ix)] [.null])) _
                                          exact k
                                        refine own_go k77 ?_
                                        clear k77
                                        obtain ⟨fs, hr, hrun, hended, hW, hsame⟩ := X0.leave (v := some .null) (fun h => by rw [Bd.returns] at h; cases h)
                                        refine ⟨_, _, retOut X0 hx Bd.returns rfl (Or.inr (Or.inr (Or.inr (Or.inr ⟨rfl, rfl, rfl⟩)))) (hb hby own_d_method_2_code_186) hr, hPf _ _ ⟨hrun, hended, _, _, rfl, ?_, ⟨_, rfl⟩, hW, hsame.mono (by decide) (by decide)⟩⟩
                                        show own_Q_expected Z ix m1 m2 m3 m4 m5 m6 m7 m8 m9 m10 m11 m12 m13 m14 m15 m16 m17 m18 m19 kb ck h0 n0 _ s₁.heap _
                                        rw [e0]
                                        have n1 : ix.toInt ≠ 1 := fun q => hc2_2 (Int32.toInt_inj.mp q)
                                        have n2 : ix.toInt ≠ 2 := fun q => hc11_6 (Int32.toInt_inj.mp q)
                                        have n3 : ix.toInt ≠ 3 := fun q => hc20_10 (Int32.toInt_inj.mp q)
                                        have n4 : ix.toInt ≠ 4 := fun q => hc29_14 (Int32.toInt_inj.mp q)
                                        have n5 : ix.toInt ≠ 5 := fun q => hc38_18 (Int32.toInt_inj.mp q)
                                        have n6 : ix.toInt ≠ 6 := fun q => hc48_22 (Int32.toInt_inj.mp q)
                                        have n7 : ix.toInt ≠ 7 := fun q => hc58_26 (Int32.toInt_inj.mp q)
                                        have n8 : ix.toInt ≠ 8 := fun q => hc68_30 (Int32.toInt_inj.mp q)
                                        have n9 : ix.toInt ≠ 9 := fun q => hc78_34 (Int32.toInt_inj.mp q)
                                        have n10 : ix.toInt ≠ 10 := fun q => hc88_38 (Int32.toInt_inj.mp q)
                                        have n11 : ix.toInt ≠ 11 := fun q => hc98_42 (Int32.toInt_inj.mp q)
                                        have n12 : ix.toInt ≠ 12 := fun q => hc108_46 (Int32.toInt_inj.mp q)
                                        have n13 : ix.toInt ≠ 13 := fun q => hc118_50 (Int32.toInt_inj.mp q)
                                        have n14 : ix.toInt ≠ 14 := fun q => hc128_54 (Int32.toInt_inj.mp q)
                                        have n15 : ix.toInt ≠ 15 := fun q => hc138_58 (Int32.toInt_inj.mp q)
                                        have n16 : ix.toInt ≠ 16 := fun q => hc148_62 (Int32.toInt_inj.mp q)
                                        have n17 : ix.toInt ≠ 17 := fun q => hc158_66 (Int32.toInt_inj.mp q)
                                        have n18 : ix.toInt ≠ 18 := fun q => hc168_70 (Int32.toInt_inj.mp q)
                                        have n19 : ix.toInt ≠ 19 := fun q => hc178_74 (Int32.toInt_inj.mp q)
                                        exact ⟨congrArg some (own_zero rfl rfl (fun k k1 k2 => by omega)).symm, N0, rfl⟩
theorem own_pd_28I29Lcom2fexample2ffeeder2ffeeder2fclient2fFrameKind3b : parseMethodDescriptor "(I)Lcom/example/feeder/feeder/client/FrameKind;" = some ⟨[.int], some (.object "com/example/feeder/feeder/client/FrameKind")⟩ := by decide +kernel
theorem own_ef_law (m : MethodId) (x0 : Int32) (x1 : Int32) : entryFrame m #[(.int x0), (.int x1)] maxLocals = mkF m 0 #[.val (.int x0), .val (.int x1), .unset, .unset, .unset] [] := by first | (simp [entryFrame, mkF, argsToLocals, Value.category, maxLocals]; done) | rfl
def own_Q_law (Z : State) (p0 : Int32) (p1 : Int32) (m1 m2 m3 m4 m5 m6 m7 m8 m9 m10 m11 m12 m13 m14 m15 m16 m17 m18 m19 kb : Addr) (ck : ClassId) (h0 : Heap) (n0 : Nat) (v : Option Value) (h : Heap) (L : List Loc) : Prop := v = some (.int 1) ∧ Fr n0 L
set_option maxRecDepth 65536 in
set_option maxHeartbeats 40000000 in
theorem own_rm_law (l : Launch) (Z : State) (a0 : Array Value) (hw : ∀ d ∈ tables_1, d.before a0 Z = true) (ws : List Jvm.Cond) (p0 : Int32) (p1 : Int32) (m1 m2 m3 m4 m5 m6 m7 m8 m9 m10 m11 m12 m13 m14 m15 m16 m17 m18 m19 kb : Addr) (ck : ClassId) (h0 : Heap) (n0 : Nat) (Z0 : n0 ≤ h0.size) (S_MESSAGE : Sta Z h0 "com/example/feeder/feeder/client/FrameKind" "MESSAGE" "Lcom/example/feeder/feeder/client/FrameKind;" (.ref m1)) (S_SUBSCRIBE : Sta Z h0 "com/example/feeder/feeder/client/FrameKind" "SUBSCRIBE" "Lcom/example/feeder/feeder/client/FrameKind;" (.ref m2)) (S_SUBSCRIBED : Sta Z h0 "com/example/feeder/feeder/client/FrameKind" "SUBSCRIBED" "Lcom/example/feeder/feeder/client/FrameKind;" (.ref m3)) (S_SYNC : Sta Z h0 "com/example/feeder/feeder/client/FrameKind" "SYNC" "Lcom/example/feeder/feeder/client/FrameKind;" (.ref m4)) (S_SYNCED : Sta Z h0 "com/example/feeder/feeder/client/FrameKind" "SYNCED" "Lcom/example/feeder/feeder/client/FrameKind;" (.ref m5)) (S_ERROR : Sta Z h0 "com/example/feeder/feeder/client/FrameKind" "ERROR" "Lcom/example/feeder/feeder/client/FrameKind;" (.ref m6)) (S_LINK : Sta Z h0 "com/example/feeder/feeder/client/FrameKind" "LINK" "Lcom/example/feeder/feeder/client/FrameKind;" (.ref m7)) (S_TAKING : Sta Z h0 "com/example/feeder/feeder/client/FrameKind" "TAKING" "Lcom/example/feeder/feeder/client/FrameKind;" (.ref m8)) (S_STATUS : Sta Z h0 "com/example/feeder/feeder/client/FrameKind" "STATUS" "Lcom/example/feeder/feeder/client/FrameKind;" (.ref m9)) (S_COUNTS : Sta Z h0 "com/example/feeder/feeder/client/FrameKind" "COUNTS" "Lcom/example/feeder/feeder/client/FrameKind;" (.ref m10)) (S_NODE_STATUS : Sta Z h0 "com/example/feeder/feeder/client/FrameKind" "NODE_STATUS" "Lcom/example/feeder/feeder/client/FrameKind;" (.ref m11)) (S_CHALLENGE : Sta Z h0 "com/example/feeder/feeder/client/FrameKind" "CHALLENGE" "Lcom/example/feeder/feeder/client/FrameKind;" (.ref m12)) (S_PROOF : Sta Z h0 "com/example/feeder/feeder/client/FrameKind" "PROOF" "Lcom/example/feeder/feeder/client/FrameKind;" (.ref m13)) (S_TOPIC_REFUSED : Sta Z h0 "com/example/feeder/feeder/client/FrameKind" "TOPIC_REFUSED" "Lcom/example/feeder/feeder/client/FrameKind;" (.ref m14)) (S_UNSUBSCRIBE : Sta Z h0 "com/example/feeder/feeder/client/FrameKind" "UNSUBSCRIBE" "Lcom/example/feeder/feeder/client/FrameKind;" (.ref m15)) (S_HELLO : Sta Z h0 "com/example/feeder/feeder/client/FrameKind" "HELLO" "Lcom/example/feeder/feeder/client/FrameKind;" (.ref m16)) (S_DELIVERED : Sta Z h0 "com/example/feeder/feeder/client/FrameKind" "DELIVERED" "Lcom/example/feeder/feeder/client/FrameKind;" (.ref m17)) (S_SUBSCRIBER_LOST : Sta Z h0 "com/example/feeder/feeder/client/FrameKind" "SUBSCRIBER_LOST" "Lcom/example/feeder/feeder/client/FrameKind;" (.ref m18)) (S_SUBSCRIBER_BACK : Sta Z h0 "com/example/feeder/feeder/client/FrameKind" "SUBSCRIBER_BACK" "Lcom/example/feeder/feeder/client/FrameKind;" (.ref m19)) (S_BY : Sta Z h0 "com/example/feeder/feeder/client/FrameKind" "BY_CODE" "[Lcom/example/feeder/feeder/client/FrameKind;" (.ref kb)) (V0 : Arv Z h0 kb ck (.object "com/example/feeder/feeder/client/FrameKind") (20 : Int32) [.null, (.ref m1), (.ref m2), (.ref m3), (.ref m4), (.ref m5), (.ref m6), (.ref m7), (.ref m8), (.ref m9), (.ref m10), (.ref m11), (.ref m12), (.ref m13), (.ref m14), (.ref m15), (.ref m16), (.ref m17), (.ref m18), (.ref m19)] .null) :
    MetFree l x (head1 (Jvm.Cond.code x code maxLocals ret :: ws) room_1) (fun a U => a = #[(.int p0), (.int p1)] ∧ Z.Warmed39 U.vm ∧ U.heap = h0) (fun _ _ _ _ _ => True) (fun _ U o U' => ∃ v L, o = .returned v ∧ own_Q_law Z p0 p1 m1 m2 m3 m4 m5 m6 m7 m8 m9 m10 m11 m12 m13 m14 m15 m16 m17 m18 m19 kb ck h0 n0 v U'.heap L ∧ FrameEnd U o U' L room_1.cells room_1.slots) := by
  refine MetFree.of_bodySF (plainFor_of_name own_pn_com_example_feeder_feeder_client_FrameKindOfCodePinLaw) hisR ?_
  intro p e s m args below meth c s₁ Bd hml0 hP hKq_
  obtain ⟨rfl, hZ, hh⟩ := hP
  have hx := Bd.exec
  have hby := Bd.bytes
  have hml : c.maxLocals = 5 := hml0
  have hown : s.vm.findClass "com/example/feeder/feeder/client/FrameKindOfCodePinLaw" = some m.cls := findClass_of_methodNamed Bd.named
  have hnm := (name_of_methodNamed Bd.named Bd.method).1
  have X0 : Stand p l e room_1 s m #[(.int p0), (.int p1)] below meth c s₁ [] 0 0 := Stand.of_body Bd
  have e0 : s₁.heap = h0 := by rw [← hh, Bd.state]; rfl
  have N0 := Fr.nil n0
  have pre0 : ∀ t, Steps p.tables e below (s₁.setTop (mkF m 0 #[.val (.int p0), .val (.int p1), .unset, .unset, .unset] [])) t → Steps p.tables e below (s₁.setTop (entryFrame m #[(.int p0), (.int p1)] maxLocals)) t := fun t k => castTop (own_ef_law m p0 p1) k
  refine own_go pre0 ?_
  refine own_abs ?_
  intro Pf hPf
  have k2 : ∀ t, Steps p.tables e below (s₁.setTop (mkF m 9 #[.val (.int p0), .val (.int p1), .val (.int ((p1 &&& (31 : Int32)) - (6 : Int32))), .unset, .unset] [(.int p0)])) t → Steps p.tables e below (s₁.setTop (mkF m 0 #[.val (.int p0), .val (.int p1), .unset, .unset, .unset] [])) t := fun t k => by
    refine XS.iloadN X0.here hx rfl (hb hby at_0) rfl ?_
    show Steps p.tables e below (s₁.setTop (mkF m 1 #[.val (.int p0), .val (.int p1), .unset, .unset, .unset] [(.int p1)])) _
    refine XS.bipush X0.here hx rfl (hb hby at_1) ?_
    show Steps p.tables e below (s₁.setTop (mkF m 3 #[.val (.int p0), .val (.int p1), .unset, .unset, .unset] [(.int (31 : Int32)), (.int p1)])) _
    refine XS.iand X0.here hx rfl (hb hby at_3) rfl ?_
    show Steps p.tables e below (s₁.setTop (mkF m 4 #[.val (.int p0), .val (.int p1), .unset, .unset, .unset] [(.int (p1 &&& (31 : Int32)))])) _
    refine XS.bipush X0.here hx rfl (hb hby at_4) ?_
    show Steps p.tables e below (s₁.setTop (mkF m 6 #[.val (.int p0), .val (.int p1), .unset, .unset, .unset] [(.int (6 : Int32)), (.int (p1 &&& (31 : Int32)))])) _
    refine XS.isub X0.here hx rfl (hb hby at_6) rfl ?_
    show Steps p.tables e below (s₁.setTop (mkF m 7 #[.val (.int p0), .val (.int p1), .unset, .unset, .unset] [(.int ((p1 &&& (31 : Int32)) - (6 : Int32)))])) _
    refine XS.istoreN X0.here hx rfl (hb hby at_7) rfl (l' := #[.val (.int p0), .val (.int p1), .val (.int ((p1 &&& (31 : Int32)) - (6 : Int32))), .unset, .unset]) rfl ?_
    show Steps p.tables e below (s₁.setTop (mkF m 8 #[.val (.int p0), .val (.int p1), .val (.int ((p1 &&& (31 : Int32)) - (6 : Int32))), .unset, .unset] [])) _
    refine XS.iloadN X0.here hx rfl (hb hby at_8) rfl ?_
    show Steps p.tables e below (s₁.setTop (mkF m 9 #[.val (.int p0), .val (.int p1), .val (.int ((p1 &&& (31 : Int32)) - (6 : Int32))), .unset, .unset] [(.int p0)])) _
    exact k
  refine own_go k2 ?_
  clear k2
  obtain ⟨_, _, ⟨T1, L1, k1, n1⟩, -, X1, ⟨Lc1, hQ1, l1, y1, z1⟩, st1⟩ := Jvm.LawKit.callS X0 hx (y := (⟨"com/example/feeder/feeder/client/FrameKind", "ofCode", "(I)Lcom/example/feeder/feeder/client/FrameKind;"⟩ : MethodName)) hown (mvT hZ (hw _ (List.mem_of_getElem? (i := 0) rfl))) (mvT hZ (hw _ (List.mem_of_getElem? (i := 1) rfl))) (mvT hZ (hw _ (List.mem_of_getElem? (i := 2) rfl))) (mvT hZ (hw _ (List.mem_of_getElem? (i := 3) rfl))) (by decide) (backOf (W := 0) (own_rm_ofCode l Z a0 hw [] p0 m1 m2 m3 m4 m5 m6 m7 m8 m9 m10 m11 m12 m13 m14 m15 m16 m17 m18 m19 kb ck h0 n0 Z0 S_MESSAGE S_SUBSCRIBE S_SUBSCRIBED S_SYNC S_SYNCED S_ERROR S_LINK S_TAKING S_STATUS S_COUNTS S_NODE_STATUS S_CHALLENGE S_PROOF S_TOPIC_REFUSED S_UNSUBSCRIBE S_HELLO S_DELIVERED S_SUBSCRIBER_LOST S_SUBSCRIBER_BACK S_BY V0) hZ (hw _ (List.mem_of_getElem? (i := 3) rfl)) (hw _ (List.mem_of_getElem? (i := 2) rfl)) (by decide) (by decide)) (g := (mkF m 9 #[.val (.int p0), .val (.int p1), .val (.int ((p1 &&& (31 : Int32)) - (6 : Int32))), .unset, .unset] [(.int p0)])) rfl (by rw [hml]; rfl) (argsL := [(.int p0)]) (rest := []) (lenOf own_pd_28I29Lcom2fexample2ffeeder2ffeeder2fclient2fFrameKind3b rfl) rfl (by show 2 * 0 + _ ≤ _; exact Nat.le_of_eq rfl) (hb hby at_9) (fun _ _ => ⟨rfl, e0, (by decide : 0 + 0 ≤ _), (by decide : 0 + 0 ≤ _)⟩)
  dsimp only [Pt.U, Pt.locs, Pt.cells, Pt.slots] at X1 l1 y1 z1 st1 hQ1
  subst l1 y1 z1
  obtain ⟨rfl, N1q, eh1⟩ := hQ1
  have N1 := Fr.app N0 N1q
  refine own_go st1 ?_
  have k4 : ∀ t, Steps p.tables e below (T1.setTop (mkF m 14 #[.val (.int p0), .val (.int p1), .val (.int ((p1 &&& (31 : Int32)) - (6 : Int32))), .val (own_K [.null, (.ref m1), (.ref m2), (.ref m3), (.ref m4), (.ref m5), (.ref m6), (.ref m7), (.ref m8), (.ref m9), (.ref m10), (.ref m11), (.ref m12), (.ref m13), (.ref m14), (.ref m15), (.ref m16), (.ref m17), (.ref m18), (.ref m19)] p0), .unset] [(.int ((p1 &&& (31 : Int32)) - (6 : Int32)))])) t → Steps p.tables e below (T1.setTop (mkF m 12 #[.val (.int p0), .val (.int p1), .val (.int ((p1 &&& (31 : Int32)) - (6 : Int32))), .unset, .unset] [(own_K [.null, (.ref m1), (.ref m2), (.ref m3), (.ref m4), (.ref m5), (.ref m6), (.ref m7), (.ref m8), (.ref m9), (.ref m10), (.ref m11), (.ref m12), (.ref m13), (.ref m14), (.ref m15), (.ref m16), (.ref m17), (.ref m18), (.ref m19)] p0)])) t := fun t k => by
    refine XS.astoreN X1.here hx rfl (hb hby at_12) rfl (own_isref (by simp [Value.isRef]) _) (l' := #[.val (.int p0), .val (.int p1), .val (.int ((p1 &&& (31 : Int32)) - (6 : Int32))), .val (own_K [.null, (.ref m1), (.ref m2), (.ref m3), (.ref m4), (.ref m5), (.ref m6), (.ref m7), (.ref m8), (.ref m9), (.ref m10), (.ref m11), (.ref m12), (.ref m13), (.ref m14), (.ref m15), (.ref m16), (.ref m17), (.ref m18), (.ref m19)] p0), .unset]) (XS.store1 rfl (Or.inl rfl) ((own_cat1 (own_isref (by simp [Value.isRef]) _)))) ?_
    show Steps p.tables e below (T1.setTop (mkF m 13 #[.val (.int p0), .val (.int p1), .val (.int ((p1 &&& (31 : Int32)) - (6 : Int32))), .val (own_K [.null, (.ref m1), (.ref m2), (.ref m3), (.ref m4), (.ref m5), (.ref m6), (.ref m7), (.ref m8), (.ref m9), (.ref m10), (.ref m11), (.ref m12), (.ref m13), (.ref m14), (.ref m15), (.ref m16), (.ref m17), (.ref m18), (.ref m19)] p0), .unset] [])) _
    refine XS.iloadN X1.here hx rfl (hb hby at_13) rfl ?_
    show Steps p.tables e below (T1.setTop (mkF m 14 #[.val (.int p0), .val (.int p1), .val (.int ((p1 &&& (31 : Int32)) - (6 : Int32))), .val (own_K [.null, (.ref m1), (.ref m2), (.ref m3), (.ref m4), (.ref m5), (.ref m6), (.ref m7), (.ref m8), (.ref m9), (.ref m10), (.ref m11), (.ref m12), (.ref m13), (.ref m14), (.ref m15), (.ref m16), (.ref m17), (.ref m18), (.ref m19)] p0), .unset] [(.int ((p1 &&& (31 : Int32)) - (6 : Int32)))])) _
    exact k
  refine own_go k4 ?_
  clear k4
  obtain ⟨_, _, ⟨T3, L3, k3, n3⟩, -, X3, ⟨Lc3, hQ3, l3, y3, z3⟩, st3⟩ := Jvm.LawKit.callS X1 hx (y := (⟨"com/example/feeder/feeder/client/FrameKind", "ofCode", "(I)Lcom/example/feeder/feeder/client/FrameKind;"⟩ : MethodName)) hown (mvT hZ (hw _ (List.mem_of_getElem? (i := 0) rfl))) (mvT hZ (hw _ (List.mem_of_getElem? (i := 1) rfl))) (mvT hZ (hw _ (List.mem_of_getElem? (i := 2) rfl))) (mvT hZ (hw _ (List.mem_of_getElem? (i := 3) rfl))) (by decide) (backOf (W := 0) (own_rm_ofCode l Z a0 hw [] ((p1 &&& (31 : Int32)) - (6 : Int32)) m1 m2 m3 m4 m5 m6 m7 m8 m9 m10 m11 m12 m13 m14 m15 m16 m17 m18 m19 kb ck h0 n0 Z0 S_MESSAGE S_SUBSCRIBE S_SUBSCRIBED S_SYNC S_SYNCED S_ERROR S_LINK S_TAKING S_STATUS S_COUNTS S_NODE_STATUS S_CHALLENGE S_PROOF S_TOPIC_REFUSED S_UNSUBSCRIBE S_HELLO S_DELIVERED S_SUBSCRIBER_LOST S_SUBSCRIBER_BACK S_BY V0) hZ (hw _ (List.mem_of_getElem? (i := 3) rfl)) (hw _ (List.mem_of_getElem? (i := 2) rfl)) (by decide) (by decide)) (g := (mkF m 14 #[.val (.int p0), .val (.int p1), .val (.int ((p1 &&& (31 : Int32)) - (6 : Int32))), .val (own_K [.null, (.ref m1), (.ref m2), (.ref m3), (.ref m4), (.ref m5), (.ref m6), (.ref m7), (.ref m8), (.ref m9), (.ref m10), (.ref m11), (.ref m12), (.ref m13), (.ref m14), (.ref m15), (.ref m16), (.ref m17), (.ref m18), (.ref m19)] p0), .unset] [(.int ((p1 &&& (31 : Int32)) - (6 : Int32)))])) rfl (by rw [hml]; rfl) (argsL := [(.int ((p1 &&& (31 : Int32)) - (6 : Int32)))]) (rest := []) (lenOf own_pd_28I29Lcom2fexample2ffeeder2ffeeder2fclient2fFrameKind3b rfl) rfl (by show 2 * 0 + _ ≤ _; exact Nat.le_of_eq rfl) (hb hby at_14) (fun _ _ => ⟨rfl, eh1, (by decide : 0 + 0 ≤ _), (by decide : 0 + 0 ≤ _)⟩)
  dsimp only [Pt.U, Pt.locs, Pt.cells, Pt.slots] at X3 l3 y3 z3 st3 hQ3
  subst l3 y3 z3
  obtain ⟨rfl, N3q, eh3⟩ := hQ3
  have N3 := Fr.app N1 N3q
  refine own_go st3 ?_
  have k6 : ∀ t, Steps p.tables e below (T3.setTop (mkF m 21 #[.val (.int p0), .val (.int p1), .val (.int ((p1 &&& (31 : Int32)) - (6 : Int32))), .val (own_K [.null, (.ref m1), (.ref m2), (.ref m3), (.ref m4), (.ref m5), (.ref m6), (.ref m7), (.ref m8), (.ref m9), (.ref m10), (.ref m11), (.ref m12), (.ref m13), (.ref m14), (.ref m15), (.ref m16), (.ref m17), (.ref m18), (.ref m19)] p0), .val (own_K [.null, (.ref m1), (.ref m2), (.ref m3), (.ref m4), (.ref m5), (.ref m6), (.ref m7), (.ref m8), (.ref m9), (.ref m10), (.ref m11), (.ref m12), (.ref m13), (.ref m14), (.ref m15), (.ref m16), (.ref m17), (.ref m18), (.ref m19)] ((p1 &&& (31 : Int32)) - (6 : Int32)))] [(.int p0), (own_K [.null, (.ref m1), (.ref m2), (.ref m3), (.ref m4), (.ref m5), (.ref m6), (.ref m7), (.ref m8), (.ref m9), (.ref m10), (.ref m11), (.ref m12), (.ref m13), (.ref m14), (.ref m15), (.ref m16), (.ref m17), (.ref m18), (.ref m19)] p0)])) t → Steps p.tables e below (T3.setTop (mkF m 17 #[.val (.int p0), .val (.int p1), .val (.int ((p1 &&& (31 : Int32)) - (6 : Int32))), .val (own_K [.null, (.ref m1), (.ref m2), (.ref m3), (.ref m4), (.ref m5), (.ref m6), (.ref m7), (.ref m8), (.ref m9), (.ref m10), (.ref m11), (.ref m12), (.ref m13), (.ref m14), (.ref m15), (.ref m16), (.ref m17), (.ref m18), (.ref m19)] p0), .unset] [(own_K [.null, (.ref m1), (.ref m2), (.ref m3), (.ref m4), (.ref m5), (.ref m6), (.ref m7), (.ref m8), (.ref m9), (.ref m10), (.ref m11), (.ref m12), (.ref m13), (.ref m14), (.ref m15), (.ref m16), (.ref m17), (.ref m18), (.ref m19)] ((p1 &&& (31 : Int32)) - (6 : Int32)))])) t := fun t k => by
    refine XS.astore X3.here hx rfl (hb hby at_17) rfl (own_isref (by simp [Value.isRef]) _) (l' := #[.val (.int p0), .val (.int p1), .val (.int ((p1 &&& (31 : Int32)) - (6 : Int32))), .val (own_K [.null, (.ref m1), (.ref m2), (.ref m3), (.ref m4), (.ref m5), (.ref m6), (.ref m7), (.ref m8), (.ref m9), (.ref m10), (.ref m11), (.ref m12), (.ref m13), (.ref m14), (.ref m15), (.ref m16), (.ref m17), (.ref m18), (.ref m19)] p0), .val (own_K [.null, (.ref m1), (.ref m2), (.ref m3), (.ref m4), (.ref m5), (.ref m6), (.ref m7), (.ref m8), (.ref m9), (.ref m10), (.ref m11), (.ref m12), (.ref m13), (.ref m14), (.ref m15), (.ref m16), (.ref m17), (.ref m18), (.ref m19)] ((p1 &&& (31 : Int32)) - (6 : Int32)))]) (XS.store1 rfl (Or.inl rfl) ((own_cat1 (own_isref (by simp [Value.isRef]) _)))) ?_
    show Steps p.tables e below (T3.setTop (mkF m 19 #[.val (.int p0), .val (.int p1), .val (.int ((p1 &&& (31 : Int32)) - (6 : Int32))), .val (own_K [.null, (.ref m1), (.ref m2), (.ref m3), (.ref m4), (.ref m5), (.ref m6), (.ref m7), (.ref m8), (.ref m9), (.ref m10), (.ref m11), (.ref m12), (.ref m13), (.ref m14), (.ref m15), (.ref m16), (.ref m17), (.ref m18), (.ref m19)] p0), .val (own_K [.null, (.ref m1), (.ref m2), (.ref m3), (.ref m4), (.ref m5), (.ref m6), (.ref m7), (.ref m8), (.ref m9), (.ref m10), (.ref m11), (.ref m12), (.ref m13), (.ref m14), (.ref m15), (.ref m16), (.ref m17), (.ref m18), (.ref m19)] ((p1 &&& (31 : Int32)) - (6 : Int32)))] [])) _
    refine XS.aloadN X3.here hx rfl (hb hby at_19) rfl (own_isref (by simp [Value.isRef]) _) ?_
    show Steps p.tables e below (T3.setTop (mkF m 20 #[.val (.int p0), .val (.int p1), .val (.int ((p1 &&& (31 : Int32)) - (6 : Int32))), .val (own_K [.null, (.ref m1), (.ref m2), (.ref m3), (.ref m4), (.ref m5), (.ref m6), (.ref m7), (.ref m8), (.ref m9), (.ref m10), (.ref m11), (.ref m12), (.ref m13), (.ref m14), (.ref m15), (.ref m16), (.ref m17), (.ref m18), (.ref m19)] p0), .val (own_K [.null, (.ref m1), (.ref m2), (.ref m3), (.ref m4), (.ref m5), (.ref m6), (.ref m7), (.ref m8), (.ref m9), (.ref m10), (.ref m11), (.ref m12), (.ref m13), (.ref m14), (.ref m15), (.ref m16), (.ref m17), (.ref m18), (.ref m19)] ((p1 &&& (31 : Int32)) - (6 : Int32)))] [(own_K [.null, (.ref m1), (.ref m2), (.ref m3), (.ref m4), (.ref m5), (.ref m6), (.ref m7), (.ref m8), (.ref m9), (.ref m10), (.ref m11), (.ref m12), (.ref m13), (.ref m14), (.ref m15), (.ref m16), (.ref m17), (.ref m18), (.ref m19)] p0)])) _
    refine XS.iloadN X3.here hx rfl (hb hby at_20) rfl ?_
    show Steps p.tables e below (T3.setTop (mkF m 21 #[.val (.int p0), .val (.int p1), .val (.int ((p1 &&& (31 : Int32)) - (6 : Int32))), .val (own_K [.null, (.ref m1), (.ref m2), (.ref m3), (.ref m4), (.ref m5), (.ref m6), (.ref m7), (.ref m8), (.ref m9), (.ref m10), (.ref m11), (.ref m12), (.ref m13), (.ref m14), (.ref m15), (.ref m16), (.ref m17), (.ref m18), (.ref m19)] p0), .val (own_K [.null, (.ref m1), (.ref m2), (.ref m3), (.ref m4), (.ref m5), (.ref m6), (.ref m7), (.ref m8), (.ref m9), (.ref m10), (.ref m11), (.ref m12), (.ref m13), (.ref m14), (.ref m15), (.ref m16), (.ref m17), (.ref m18), (.ref m19)] ((p1 &&& (31 : Int32)) - (6 : Int32)))] [(.int p0), (own_K [.null, (.ref m1), (.ref m2), (.ref m3), (.ref m4), (.ref m5), (.ref m6), (.ref m7), (.ref m8), (.ref m9), (.ref m10), (.ref m11), (.ref m12), (.ref m13), (.ref m14), (.ref m15), (.ref m16), (.ref m17), (.ref m18), (.ref m19)] p0)])) _
    exact k
  refine own_go k6 ?_
  clear k6
  obtain ⟨_, _, ⟨T5, L5, k5, n5⟩, -, X5, ⟨Lc5, hQ5, l5, y5, z5⟩, st5⟩ := Jvm.LawKit.callS X3 hx (y := (⟨"com/example/feeder/feeder/client/FrameKindOfCodePinLaw", "expected", "(I)Lcom/example/feeder/feeder/client/FrameKind;"⟩ : MethodName)) hown (mvT hZ (hw _ (List.mem_of_getElem? (i := 8) rfl))) (mvT hZ (hw _ (List.mem_of_getElem? (i := 9) rfl))) (mvT hZ (hw _ (List.mem_of_getElem? (i := 10) rfl))) (mvT hZ (hw _ (List.mem_of_getElem? (i := 11) rfl))) (by decide) (backOf (W := 1) (own_rm_expected l Z a0 hw [] p0 m1 m2 m3 m4 m5 m6 m7 m8 m9 m10 m11 m12 m13 m14 m15 m16 m17 m18 m19 kb ck h0 n0 Z0 S_MESSAGE S_SUBSCRIBE S_SUBSCRIBED S_SYNC S_SYNCED S_ERROR S_LINK S_TAKING S_STATUS S_COUNTS S_NODE_STATUS S_CHALLENGE S_PROOF S_TOPIC_REFUSED S_UNSUBSCRIBE S_HELLO S_DELIVERED S_SUBSCRIBER_LOST S_SUBSCRIBER_BACK S_BY V0) hZ (hw _ (List.mem_of_getElem? (i := 11) rfl)) (hw _ (List.mem_of_getElem? (i := 10) rfl)) (by decide) (by decide)) (g := (mkF m 21 #[.val (.int p0), .val (.int p1), .val (.int ((p1 &&& (31 : Int32)) - (6 : Int32))), .val (own_K [.null, (.ref m1), (.ref m2), (.ref m3), (.ref m4), (.ref m5), (.ref m6), (.ref m7), (.ref m8), (.ref m9), (.ref m10), (.ref m11), (.ref m12), (.ref m13), (.ref m14), (.ref m15), (.ref m16), (.ref m17), (.ref m18), (.ref m19)] p0), .val (own_K [.null, (.ref m1), (.ref m2), (.ref m3), (.ref m4), (.ref m5), (.ref m6), (.ref m7), (.ref m8), (.ref m9), (.ref m10), (.ref m11), (.ref m12), (.ref m13), (.ref m14), (.ref m15), (.ref m16), (.ref m17), (.ref m18), (.ref m19)] ((p1 &&& (31 : Int32)) - (6 : Int32)))] [(.int p0), (own_K [.null, (.ref m1), (.ref m2), (.ref m3), (.ref m4), (.ref m5), (.ref m6), (.ref m7), (.ref m8), (.ref m9), (.ref m10), (.ref m11), (.ref m12), (.ref m13), (.ref m14), (.ref m15), (.ref m16), (.ref m17), (.ref m18), (.ref m19)] p0)])) rfl (by rw [hml]; rfl) (argsL := [(.int p0)]) (rest := [(own_K [.null, (.ref m1), (.ref m2), (.ref m3), (.ref m4), (.ref m5), (.ref m6), (.ref m7), (.ref m8), (.ref m9), (.ref m10), (.ref m11), (.ref m12), (.ref m13), (.ref m14), (.ref m15), (.ref m16), (.ref m17), (.ref m18), (.ref m19)] p0)]) (lenOf own_pd_28I29Lcom2fexample2ffeeder2ffeeder2fclient2fFrameKind3b rfl) rfl (by show 2 * 0 + _ ≤ _; show 2 * 0 + (List.map (fun v => v.category) [(own_K [.null, (.ref m1), (.ref m2), (.ref m3), (.ref m4), (.ref m5), (.ref m6), (.ref m7), (.ref m8), (.ref m9), (.ref m10), (.ref m11), (.ref m12), (.ref m13), (.ref m14), (.ref m15), (.ref m16), (.ref m17), (.ref m18), (.ref m19)] p0)]).sum ≤ _; simp only [List.map, (show Value.category (own_K [.null, (.ref m1), (.ref m2), (.ref m3), (.ref m4), (.ref m5), (.ref m6), (.ref m7), (.ref m8), (.ref m9), (.ref m10), (.ref m11), (.ref m12), (.ref m13), (.ref m14), (.ref m15), (.ref m16), (.ref m17), (.ref m18), (.ref m19)] p0) = 1 from (own_cat1 (own_isref (by simp [Value.isRef]) _)))]; exact Nat.le_of_eq rfl) (hb hby at_21) (fun _ _ => ⟨rfl, eh3, (by decide : 0 + 0 ≤ _), (by decide : 0 + 0 ≤ _)⟩)
  dsimp only [Pt.U, Pt.locs, Pt.cells, Pt.slots] at X5 l5 y5 z5 st5 hQ5
  subst l5 y5 z5
  obtain ⟨rfl, N5q, eh5⟩ := hQ5
  have N5 := Fr.app N3 N5q
  refine own_go st5 ?_
  have k8 : ∀ t, Steps p.tables e below (T5.setTop (mkF m 30 #[.val (.int p0), .val (.int p1), .val (.int ((p1 &&& (31 : Int32)) - (6 : Int32))), .val (own_K [.null, (.ref m1), (.ref m2), (.ref m3), (.ref m4), (.ref m5), (.ref m6), (.ref m7), (.ref m8), (.ref m9), (.ref m10), (.ref m11), (.ref m12), (.ref m13), (.ref m14), (.ref m15), (.ref m16), (.ref m17), (.ref m18), (.ref m19)] p0), .val (own_K [.null, (.ref m1), (.ref m2), (.ref m3), (.ref m4), (.ref m5), (.ref m6), (.ref m7), (.ref m8), (.ref m9), (.ref m10), (.ref m11), (.ref m12), (.ref m13), (.ref m14), (.ref m15), (.ref m16), (.ref m17), (.ref m18), (.ref m19)] ((p1 &&& (31 : Int32)) - (6 : Int32)))] [(.int ((p1 &&& (31 : Int32)) - (6 : Int32))), (own_K [.null, (.ref m1), (.ref m2), (.ref m3), (.ref m4), (.ref m5), (.ref m6), (.ref m7), (.ref m8), (.ref m9), (.ref m10), (.ref m11), (.ref m12), (.ref m13), (.ref m14), (.ref m15), (.ref m16), (.ref m17), (.ref m18), (.ref m19)] ((p1 &&& (31 : Int32)) - (6 : Int32)))])) t → Steps p.tables e below (T5.setTop (mkF m 24 #[.val (.int p0), .val (.int p1), .val (.int ((p1 &&& (31 : Int32)) - (6 : Int32))), .val (own_K [.null, (.ref m1), (.ref m2), (.ref m3), (.ref m4), (.ref m5), (.ref m6), (.ref m7), (.ref m8), (.ref m9), (.ref m10), (.ref m11), (.ref m12), (.ref m13), (.ref m14), (.ref m15), (.ref m16), (.ref m17), (.ref m18), (.ref m19)] p0), .val (own_K [.null, (.ref m1), (.ref m2), (.ref m3), (.ref m4), (.ref m5), (.ref m6), (.ref m7), (.ref m8), (.ref m9), (.ref m10), (.ref m11), (.ref m12), (.ref m13), (.ref m14), (.ref m15), (.ref m16), (.ref m17), (.ref m18), (.ref m19)] ((p1 &&& (31 : Int32)) - (6 : Int32)))] [(own_K [.null, (.ref m1), (.ref m2), (.ref m3), (.ref m4), (.ref m5), (.ref m6), (.ref m7), (.ref m8), (.ref m9), (.ref m10), (.ref m11), (.ref m12), (.ref m13), (.ref m14), (.ref m15), (.ref m16), (.ref m17), (.ref m18), (.ref m19)] p0), (own_K [.null, (.ref m1), (.ref m2), (.ref m3), (.ref m4), (.ref m5), (.ref m6), (.ref m7), (.ref m8), (.ref m9), (.ref m10), (.ref m11), (.ref m12), (.ref m13), (.ref m14), (.ref m15), (.ref m16), (.ref m17), (.ref m18), (.ref m19)] p0)])) t := fun t k => by
    refine Jvm.RoadKit.acmp (g := (mkF m 24 #[.val (.int p0), .val (.int p1), .val (.int ((p1 &&& (31 : Int32)) - (6 : Int32))), .val (own_K [.null, (.ref m1), (.ref m2), (.ref m3), (.ref m4), (.ref m5), (.ref m6), (.ref m7), (.ref m8), (.ref m9), (.ref m10), (.ref m11), (.ref m12), (.ref m13), (.ref m14), (.ref m15), (.ref m16), (.ref m17), (.ref m18), (.ref m19)] p0), .val (own_K [.null, (.ref m1), (.ref m2), (.ref m3), (.ref m4), (.ref m5), (.ref m6), (.ref m7), (.ref m8), (.ref m9), (.ref m10), (.ref m11), (.ref m12), (.ref m13), (.ref m14), (.ref m15), (.ref m16), (.ref m17), (.ref m18), (.ref m19)] ((p1 &&& (31 : Int32)) - (6 : Int32)))] [(own_K [.null, (.ref m1), (.ref m2), (.ref m3), (.ref m4), (.ref m5), (.ref m6), (.ref m7), (.ref m8), (.ref m9), (.ref m10), (.ref m11), (.ref m12), (.ref m13), (.ref m14), (.ref m15), (.ref m16), (.ref m17), (.ref m18), (.ref m19)] p0), (own_K [.null, (.ref m1), (.ref m2), (.ref m3), (.ref m4), (.ref m5), (.ref m6), (.ref m7), (.ref m8), (.ref m9), (.ref m10), (.ref m11), (.ref m12), (.ref m13), (.ref m14), (.ref m15), (.ref m16), (.ref m17), (.ref m18), (.ref m19)] p0)])) X5 hx rfl (own_isref (by simp [Value.isRef]) _) (own_isref (by simp [Value.isRef]) _) (pc0 := 24) (pc' := 27) (same := true) rfl (hb hby at_24) rfl (decide_eq_true rfl) (by decide) (by decide) ?_
    show Steps p.tables e below (T5.setTop (mkF m 27 #[.val (.int p0), .val (.int p1), .val (.int ((p1 &&& (31 : Int32)) - (6 : Int32))), .val (own_K [.null, (.ref m1), (.ref m2), (.ref m3), (.ref m4), (.ref m5), (.ref m6), (.ref m7), (.ref m8), (.ref m9), (.ref m10), (.ref m11), (.ref m12), (.ref m13), (.ref m14), (.ref m15), (.ref m16), (.ref m17), (.ref m18), (.ref m19)] p0), .val (own_K [.null, (.ref m1), (.ref m2), (.ref m3), (.ref m4), (.ref m5), (.ref m6), (.ref m7), (.ref m8), (.ref m9), (.ref m10), (.ref m11), (.ref m12), (.ref m13), (.ref m14), (.ref m15), (.ref m16), (.ref m17), (.ref m18), (.ref m19)] ((p1 &&& (31 : Int32)) - (6 : Int32)))] [])) _
    refine XS.aload X5.here hx rfl (hb hby at_27) rfl (own_isref (by simp [Value.isRef]) _) ?_
    show Steps p.tables e below (T5.setTop (mkF m 29 #[.val (.int p0), .val (.int p1), .val (.int ((p1 &&& (31 : Int32)) - (6 : Int32))), .val (own_K [.null, (.ref m1), (.ref m2), (.ref m3), (.ref m4), (.ref m5), (.ref m6), (.ref m7), (.ref m8), (.ref m9), (.ref m10), (.ref m11), (.ref m12), (.ref m13), (.ref m14), (.ref m15), (.ref m16), (.ref m17), (.ref m18), (.ref m19)] p0), .val (own_K [.null, (.ref m1), (.ref m2), (.ref m3), (.ref m4), (.ref m5), (.ref m6), (.ref m7), (.ref m8), (.ref m9), (.ref m10), (.ref m11), (.ref m12), (.ref m13), (.ref m14), (.ref m15), (.ref m16), (.ref m17), (.ref m18), (.ref m19)] ((p1 &&& (31 : Int32)) - (6 : Int32)))] [(own_K [.null, (.ref m1), (.ref m2), (.ref m3), (.ref m4), (.ref m5), (.ref m6), (.ref m7), (.ref m8), (.ref m9), (.ref m10), (.ref m11), (.ref m12), (.ref m13), (.ref m14), (.ref m15), (.ref m16), (.ref m17), (.ref m18), (.ref m19)] ((p1 &&& (31 : Int32)) - (6 : Int32)))])) _
    refine XS.iloadN X5.here hx rfl (hb hby at_29) rfl ?_
    show Steps p.tables e below (T5.setTop (mkF m 30 #[.val (.int p0), .val (.int p1), .val (.int ((p1 &&& (31 : Int32)) - (6 : Int32))), .val (own_K [.null, (.ref m1), (.ref m2), (.ref m3), (.ref m4), (.ref m5), (.ref m6), (.ref m7), (.ref m8), (.ref m9), (.ref m10), (.ref m11), (.ref m12), (.ref m13), (.ref m14), (.ref m15), (.ref m16), (.ref m17), (.ref m18), (.ref m19)] p0), .val (own_K [.null, (.ref m1), (.ref m2), (.ref m3), (.ref m4), (.ref m5), (.ref m6), (.ref m7), (.ref m8), (.ref m9), (.ref m10), (.ref m11), (.ref m12), (.ref m13), (.ref m14), (.ref m15), (.ref m16), (.ref m17), (.ref m18), (.ref m19)] ((p1 &&& (31 : Int32)) - (6 : Int32)))] [(.int ((p1 &&& (31 : Int32)) - (6 : Int32))), (own_K [.null, (.ref m1), (.ref m2), (.ref m3), (.ref m4), (.ref m5), (.ref m6), (.ref m7), (.ref m8), (.ref m9), (.ref m10), (.ref m11), (.ref m12), (.ref m13), (.ref m14), (.ref m15), (.ref m16), (.ref m17), (.ref m18), (.ref m19)] ((p1 &&& (31 : Int32)) - (6 : Int32)))])) _
    exact k
  refine own_go k8 ?_
  clear k8
  obtain ⟨_, _, ⟨T7, L7, k7, n7⟩, -, X7, ⟨Lc7, hQ7, l7, y7, z7⟩, st7⟩ := Jvm.LawKit.callS X5 hx (y := (⟨"com/example/feeder/feeder/client/FrameKindOfCodePinLaw", "expected", "(I)Lcom/example/feeder/feeder/client/FrameKind;"⟩ : MethodName)) hown (mvT hZ (hw _ (List.mem_of_getElem? (i := 8) rfl))) (mvT hZ (hw _ (List.mem_of_getElem? (i := 9) rfl))) (mvT hZ (hw _ (List.mem_of_getElem? (i := 10) rfl))) (mvT hZ (hw _ (List.mem_of_getElem? (i := 11) rfl))) (by decide) (backOf (W := 1) (own_rm_expected l Z a0 hw [] ((p1 &&& (31 : Int32)) - (6 : Int32)) m1 m2 m3 m4 m5 m6 m7 m8 m9 m10 m11 m12 m13 m14 m15 m16 m17 m18 m19 kb ck h0 n0 Z0 S_MESSAGE S_SUBSCRIBE S_SUBSCRIBED S_SYNC S_SYNCED S_ERROR S_LINK S_TAKING S_STATUS S_COUNTS S_NODE_STATUS S_CHALLENGE S_PROOF S_TOPIC_REFUSED S_UNSUBSCRIBE S_HELLO S_DELIVERED S_SUBSCRIBER_LOST S_SUBSCRIBER_BACK S_BY V0) hZ (hw _ (List.mem_of_getElem? (i := 11) rfl)) (hw _ (List.mem_of_getElem? (i := 10) rfl)) (by decide) (by decide)) (g := (mkF m 30 #[.val (.int p0), .val (.int p1), .val (.int ((p1 &&& (31 : Int32)) - (6 : Int32))), .val (own_K [.null, (.ref m1), (.ref m2), (.ref m3), (.ref m4), (.ref m5), (.ref m6), (.ref m7), (.ref m8), (.ref m9), (.ref m10), (.ref m11), (.ref m12), (.ref m13), (.ref m14), (.ref m15), (.ref m16), (.ref m17), (.ref m18), (.ref m19)] p0), .val (own_K [.null, (.ref m1), (.ref m2), (.ref m3), (.ref m4), (.ref m5), (.ref m6), (.ref m7), (.ref m8), (.ref m9), (.ref m10), (.ref m11), (.ref m12), (.ref m13), (.ref m14), (.ref m15), (.ref m16), (.ref m17), (.ref m18), (.ref m19)] ((p1 &&& (31 : Int32)) - (6 : Int32)))] [(.int ((p1 &&& (31 : Int32)) - (6 : Int32))), (own_K [.null, (.ref m1), (.ref m2), (.ref m3), (.ref m4), (.ref m5), (.ref m6), (.ref m7), (.ref m8), (.ref m9), (.ref m10), (.ref m11), (.ref m12), (.ref m13), (.ref m14), (.ref m15), (.ref m16), (.ref m17), (.ref m18), (.ref m19)] ((p1 &&& (31 : Int32)) - (6 : Int32)))])) rfl (by rw [hml]; rfl) (argsL := [(.int ((p1 &&& (31 : Int32)) - (6 : Int32)))]) (rest := [(own_K [.null, (.ref m1), (.ref m2), (.ref m3), (.ref m4), (.ref m5), (.ref m6), (.ref m7), (.ref m8), (.ref m9), (.ref m10), (.ref m11), (.ref m12), (.ref m13), (.ref m14), (.ref m15), (.ref m16), (.ref m17), (.ref m18), (.ref m19)] ((p1 &&& (31 : Int32)) - (6 : Int32)))]) (lenOf own_pd_28I29Lcom2fexample2ffeeder2ffeeder2fclient2fFrameKind3b rfl) rfl (by show 2 * 0 + _ ≤ _; show 2 * 0 + (List.map (fun v => v.category) [(own_K [.null, (.ref m1), (.ref m2), (.ref m3), (.ref m4), (.ref m5), (.ref m6), (.ref m7), (.ref m8), (.ref m9), (.ref m10), (.ref m11), (.ref m12), (.ref m13), (.ref m14), (.ref m15), (.ref m16), (.ref m17), (.ref m18), (.ref m19)] ((p1 &&& (31 : Int32)) - (6 : Int32)))]).sum ≤ _; simp only [List.map, (show Value.category (own_K [.null, (.ref m1), (.ref m2), (.ref m3), (.ref m4), (.ref m5), (.ref m6), (.ref m7), (.ref m8), (.ref m9), (.ref m10), (.ref m11), (.ref m12), (.ref m13), (.ref m14), (.ref m15), (.ref m16), (.ref m17), (.ref m18), (.ref m19)] ((p1 &&& (31 : Int32)) - (6 : Int32))) = 1 from (own_cat1 (own_isref (by simp [Value.isRef]) _)))]; exact Nat.le_of_eq rfl) (hb hby at_30) (fun _ _ => ⟨rfl, eh5, (by decide : 0 + 0 ≤ _), (by decide : 0 + 0 ≤ _)⟩)
  dsimp only [Pt.U, Pt.locs, Pt.cells, Pt.slots] at X7 l7 y7 z7 st7 hQ7
  subst l7 y7 z7
  obtain ⟨rfl, N7q, eh7⟩ := hQ7
  have N7 := Fr.app N5 N7q
  refine own_go st7 ?_
  have k9 : ∀ t, Steps p.tables e below (T7.setTop (mkF m 41 #[.val (.int p0), .val (.int p1), .val (.int ((p1 &&& (31 : Int32)) - (6 : Int32))), .val (own_K [.null, (.ref m1), (.ref m2), (.ref m3), (.ref m4), (.ref m5), (.ref m6), (.ref m7), (.ref m8), (.ref m9), (.ref m10), (.ref m11), (.ref m12), (.ref m13), (.ref m14), (.ref m15), (.ref m16), (.ref m17), (.ref m18), (.ref m19)] p0), .val (own_K [.null, (.ref m1), (.ref m2), (.ref m3), (.ref m4), (.ref m5), (.ref m6), (.ref m7), (.ref m8), (.ref m9), (.ref m10), (.ref m11), (.ref m12), (.ref m13), (.ref m14), (.ref m15), (.ref m16), (.ref m17), (.ref m18), (.ref m19)] ((p1 &&& (31 : Int32)) - (6 : Int32)))] [(.int (1 : Int32))])) t → Steps p.tables e below (T7.setTop (mkF m 33 #[.val (.int p0), .val (.int p1), .val (.int ((p1 &&& (31 : Int32)) - (6 : Int32))), .val (own_K [.null, (.ref m1), (.ref m2), (.ref m3), (.ref m4), (.ref m5), (.ref m6), (.ref m7), (.ref m8), (.ref m9), (.ref m10), (.ref m11), (.ref m12), (.ref m13), (.ref m14), (.ref m15), (.ref m16), (.ref m17), (.ref m18), (.ref m19)] p0), .val (own_K [.null, (.ref m1), (.ref m2), (.ref m3), (.ref m4), (.ref m5), (.ref m6), (.ref m7), (.ref m8), (.ref m9), (.ref m10), (.ref m11), (.ref m12), (.ref m13), (.ref m14), (.ref m15), (.ref m16), (.ref m17), (.ref m18), (.ref m19)] ((p1 &&& (31 : Int32)) - (6 : Int32)))] [(own_K [.null, (.ref m1), (.ref m2), (.ref m3), (.ref m4), (.ref m5), (.ref m6), (.ref m7), (.ref m8), (.ref m9), (.ref m10), (.ref m11), (.ref m12), (.ref m13), (.ref m14), (.ref m15), (.ref m16), (.ref m17), (.ref m18), (.ref m19)] ((p1 &&& (31 : Int32)) - (6 : Int32))), (own_K [.null, (.ref m1), (.ref m2), (.ref m3), (.ref m4), (.ref m5), (.ref m6), (.ref m7), (.ref m8), (.ref m9), (.ref m10), (.ref m11), (.ref m12), (.ref m13), (.ref m14), (.ref m15), (.ref m16), (.ref m17), (.ref m18), (.ref m19)] ((p1 &&& (31 : Int32)) - (6 : Int32)))])) t := fun t k => by
    refine Jvm.RoadKit.acmp (g := (mkF m 33 #[.val (.int p0), .val (.int p1), .val (.int ((p1 &&& (31 : Int32)) - (6 : Int32))), .val (own_K [.null, (.ref m1), (.ref m2), (.ref m3), (.ref m4), (.ref m5), (.ref m6), (.ref m7), (.ref m8), (.ref m9), (.ref m10), (.ref m11), (.ref m12), (.ref m13), (.ref m14), (.ref m15), (.ref m16), (.ref m17), (.ref m18), (.ref m19)] p0), .val (own_K [.null, (.ref m1), (.ref m2), (.ref m3), (.ref m4), (.ref m5), (.ref m6), (.ref m7), (.ref m8), (.ref m9), (.ref m10), (.ref m11), (.ref m12), (.ref m13), (.ref m14), (.ref m15), (.ref m16), (.ref m17), (.ref m18), (.ref m19)] ((p1 &&& (31 : Int32)) - (6 : Int32)))] [(own_K [.null, (.ref m1), (.ref m2), (.ref m3), (.ref m4), (.ref m5), (.ref m6), (.ref m7), (.ref m8), (.ref m9), (.ref m10), (.ref m11), (.ref m12), (.ref m13), (.ref m14), (.ref m15), (.ref m16), (.ref m17), (.ref m18), (.ref m19)] ((p1 &&& (31 : Int32)) - (6 : Int32))), (own_K [.null, (.ref m1), (.ref m2), (.ref m3), (.ref m4), (.ref m5), (.ref m6), (.ref m7), (.ref m8), (.ref m9), (.ref m10), (.ref m11), (.ref m12), (.ref m13), (.ref m14), (.ref m15), (.ref m16), (.ref m17), (.ref m18), (.ref m19)] ((p1 &&& (31 : Int32)) - (6 : Int32)))])) X7 hx rfl (own_isref (by simp [Value.isRef]) _) (own_isref (by simp [Value.isRef]) _) (pc0 := 33) (pc' := 36) (same := true) rfl (hb hby at_33) rfl (decide_eq_true rfl) (by decide) (by decide) ?_
    show Steps p.tables e below (T7.setTop (mkF m 36 #[.val (.int p0), .val (.int p1), .val (.int ((p1 &&& (31 : Int32)) - (6 : Int32))), .val (own_K [.null, (.ref m1), (.ref m2), (.ref m3), (.ref m4), (.ref m5), (.ref m6), (.ref m7), (.ref m8), (.ref m9), (.ref m10), (.ref m11), (.ref m12), (.ref m13), (.ref m14), (.ref m15), (.ref m16), (.ref m17), (.ref m18), (.ref m19)] p0), .val (own_K [.null, (.ref m1), (.ref m2), (.ref m3), (.ref m4), (.ref m5), (.ref m6), (.ref m7), (.ref m8), (.ref m9), (.ref m10), (.ref m11), (.ref m12), (.ref m13), (.ref m14), (.ref m15), (.ref m16), (.ref m17), (.ref m18), (.ref m19)] ((p1 &&& (31 : Int32)) - (6 : Int32)))] [])) _
    refine XS.iconst X7.here hx rfl (hb hby at_36) ?_
    show Steps p.tables e below (T7.setTop (mkF m 37 #[.val (.int p0), .val (.int p1), .val (.int ((p1 &&& (31 : Int32)) - (6 : Int32))), .val (own_K [.null, (.ref m1), (.ref m2), (.ref m3), (.ref m4), (.ref m5), (.ref m6), (.ref m7), (.ref m8), (.ref m9), (.ref m10), (.ref m11), (.ref m12), (.ref m13), (.ref m14), (.ref m15), (.ref m16), (.ref m17), (.ref m18), (.ref m19)] p0), .val (own_K [.null, (.ref m1), (.ref m2), (.ref m3), (.ref m4), (.ref m5), (.ref m6), (.ref m7), (.ref m8), (.ref m9), (.ref m10), (.ref m11), (.ref m12), (.ref m13), (.ref m14), (.ref m15), (.ref m16), (.ref m17), (.ref m18), (.ref m19)] ((p1 &&& (31 : Int32)) - (6 : Int32)))] [(.int (1 : Int32))])) _
    refine XS.goto X7.here hx rfl (pc0 := 37) (pc' := 41) rfl (hb hby at_37) (by decide) (by decide) ?_
    show Steps p.tables e below (T7.setTop (mkF m 41 #[.val (.int p0), .val (.int p1), .val (.int ((p1 &&& (31 : Int32)) - (6 : Int32))), .val (own_K [.null, (.ref m1), (.ref m2), (.ref m3), (.ref m4), (.ref m5), (.ref m6), (.ref m7), (.ref m8), (.ref m9), (.ref m10), (.ref m11), (.ref m12), (.ref m13), (.ref m14), (.ref m15), (.ref m16), (.ref m17), (.ref m18), (.ref m19)] p0), .val (own_K [.null, (.ref m1), (.ref m2), (.ref m3), (.ref m4), (.ref m5), (.ref m6), (.ref m7), (.ref m8), (.ref m9), (.ref m10), (.ref m11), (.ref m12), (.ref m13), (.ref m14), (.ref m15), (.ref m16), (.ref m17), (.ref m18), (.ref m19)] ((p1 &&& (31 : Int32)) - (6 : Int32)))] [(.int (1 : Int32))])) _
    exact k
  refine own_go k9 ?_
  clear k9
  obtain ⟨fs, hr, hrun, hended, hW, hsame⟩ := X7.leave (v := some (.int (nar .boolean (1 : Int32)))) (fun h => by rw [Bd.returns] at h; cases h)
  refine ⟨_, _, retN X7 hx (t := .boolean) Bd.returns (by simp) (hb hby at_41) hr, hPf _ _ ⟨hrun, hended, _, _, rfl, ?_, ⟨_, rfl⟩, hW, hsame.mono (by decide) (by decide)⟩⟩
  show own_Q_law Z p0 p1 m1 m2 m3 m4 m5 m6 m7 m8 m9 m10 m11 m12 m13 m14 m15 m16 m17 m18 m19 kb ck h0 n0 _ T7.heap _
  rw [eh7]
  exact ⟨rfl, N7⟩
theorem own_eqref {args : Array Value} {first s : State} {o : Option Outcome} {idx : List Nat} {a b : Term} {m : Addr} (h : (Jvm.Cond.eq a b).value args first o s idx = some true) (hb : b.eval args first o idx s = some (.ref m)) : a.eval args first o idx s = some (.ref m) := by
  obtain ⟨x, y, hx, hy, kin, -⟩ := cmp_v (Or.inl h)
  cases hb.symm.trans hy
  have hr : x.isRef = true := by cases x <;> simp [Kin, Value.isRef] at kin ⊢
  have e := gotT (eq_R hx hy hr rfl) h
  rw [hx, e]
set_option maxRecDepth 65536 in
set_option maxHeartbeats 40000000 in
theorem own_comes {Post : Tables → Env → Array Value → State → Outcome → State → Prop} (hpost : ∀ tb e args s v u, (limb_1_1.after args s (.returned v) u = true ∧ limb_1_2.after args s (.returned v) u = true ∧ True) → FrameEnd s (.returned v) u (Jvm.fieldLocs frame_1_writes args s ++ Jvm.arrayLocs frame_1_arrays args s ++ Jvm.staticLocs frame_1_statics s) 0 0 → Post tb e args s (.returned v) u) :
    ArmFor flags0 classFile x code maxLocals ret World_1 tables_1 room_1 Calls_1 rest_1 Pre_1 Post := by
  intro l hfl _ _ p e ha hc hk s m args below hf hA hF happ hP
  obtain ⟨hcalls, hrest, hpre⟩ := hP
  obtain ⟨-, -, -, hnamed, -, -, -, hat⟩ := (Spec.applies_iff hf).mp happ
  obtain ⟨hg, hn⟩ := and_e (Cond.before_iff.mp (show (Jvm.Cond.and given_1 narrow_1).before args s = true from hpre))
  obtain ⟨hg1a, hg1b⟩ := and_e hg
  obtain ⟨hg2a, hg2b⟩ := and_e hg1b
  obtain ⟨w0, w1, rfl⟩ : ∃ w0 w1 : Value, args = #[w0, w1] := by
    have hs : args.size = 2 := by simpa [Cond.value, given_1] using hg1a
    obtain ⟨L⟩ := args
    match L, hs with
    | [w0, w1], _ => exact ⟨w0, w1, rfl⟩
  have hw := fun d (hd : d ∈ tables_1) => atoms_spec (ws := Jvm.Cond.code x code maxLocals ret :: tables_1) hat d (List.mem_cons_of_mem _ hd)
  have hfit : Fit s := fun {y c} hc i hi => by
    obtain ⟨ha, rfl⟩ := Array.getElem?_eq_some_iff.mp hc
    have q := List.all_eq_true.mp ((Array.all_eq_true_iff_forall_mem.mp hF) _ (Array.getElem_mem ha)) i (List.mem_range.mpr hi)
    simpa [Array.getElem?_eq_getElem hi] using q
  obtain ⟨i0, ei0⟩ := is_v hg2a
  obtain rfl : w0 = (.int i0) := Option.some.inj ei0
  obtain ⟨i1, ei1⟩ := is_v hg2b
  obtain rfl : w1 = (.int i1) := Option.some.inj ei1
  obtain ⟨hn1a, hn1b⟩ := and_e hn
  obtain ⟨hn2a, hn2b⟩ := and_e hn1b
  obtain ⟨hn3a, hn3b⟩ := and_e hn2b
  obtain ⟨hn4a, hn4b⟩ := and_e hn3b
  obtain ⟨hn5a, hn5b⟩ := and_e hn4b
  obtain ⟨hn6a, hn6b⟩ := and_e hn5b
  obtain ⟨hn7a, hn7b⟩ := and_e hn6b
  obtain ⟨hn8a, hn8b⟩ := and_e hn7b
  obtain ⟨hn9a, hn9b⟩ := and_e hn8b
  obtain ⟨hn10a, hn10b⟩ := and_e hn9b
  obtain ⟨hn11a, hn11b⟩ := and_e hn10b
  obtain ⟨hn12a, hn12b⟩ := and_e hn11b
  obtain ⟨hn13a, hn13b⟩ := and_e hn12b
  obtain ⟨hn14a, hn14b⟩ := and_e hn13b
  obtain ⟨hn15a, hn15b⟩ := and_e hn14b
  obtain ⟨hn16a, hn16b⟩ := and_e hn15b
  obtain ⟨hn17a, hn17b⟩ := and_e hn16b
  obtain ⟨hn18a, hn18b⟩ := and_e hn17b
  obtain ⟨hn19a, hn19b⟩ := and_e hn18b
  obtain ⟨hn20a, hn20b⟩ := and_e hn19b
  obtain ⟨hn21a, hn21b⟩ := and_e hn20b
  obtain ⟨hn22a, hn22b⟩ := and_e hn21b
  obtain ⟨hn23a, hn23b⟩ := and_e hn22b
  obtain ⟨hn24a, hn24b⟩ := and_e hn23b
  obtain ⟨hn25a, hn25b⟩ := and_e hn24b
  obtain ⟨hn26a, hn26b⟩ := and_e hn25b
  obtain ⟨hn27a, hn27b⟩ := and_e hn26b
  obtain ⟨hn28a, hn28b⟩ := and_e hn27b
  obtain ⟨hn29a, hn29b⟩ := and_e hn28b
  obtain ⟨hn30a, hn30b⟩ := and_e hn29b
  obtain ⟨hn31a, hn31b⟩ := and_e hn30b
  obtain ⟨hn32a, hn32b⟩ := and_e hn31b
  obtain ⟨hn33a, hn33b⟩ := and_e hn32b
  obtain ⟨hn34a, hn34b⟩ := and_e hn33b
  obtain ⟨hn35a, hn35b⟩ := and_e hn34b
  obtain ⟨hn36a, hn36b⟩ := and_e hn35b
  obtain ⟨hn37a, hn37b⟩ := and_e hn36b
  obtain ⟨hn38a, hn38b⟩ := and_e hn37b
  obtain ⟨hn39a, hn39b⟩ := and_e hn38b
  obtain ⟨hn40a, hn40b⟩ := and_e hn39b
  obtain ⟨m1, e_m1⟩ := exa_v hn1a
  have S_MESSAGE : Sta s s.heap "com/example/feeder/feeder/client/FrameKind" "MESSAGE" "Lcom/example/feeder/feeder/client/FrameKind;" (.ref m1) := Sta.start e_m1 (Or.inr ⟨(hw _ (List.mem_of_getElem? (i := 2) rfl)), (hw _ (List.mem_of_getElem? (i := 5) rfl))⟩)
  obtain ⟨m2, e_m2⟩ := exa_v hn21a
  have S_SUBSCRIBE : Sta s s.heap "com/example/feeder/feeder/client/FrameKind" "SUBSCRIBE" "Lcom/example/feeder/feeder/client/FrameKind;" (.ref m2) := Sta.start e_m2 (Or.inr ⟨(hw _ (List.mem_of_getElem? (i := 2) rfl)), (hw _ (List.mem_of_getElem? (i := 29) rfl))⟩)
  obtain ⟨m3, e_m3⟩ := exa_v hn15a
  have S_SUBSCRIBED : Sta s s.heap "com/example/feeder/feeder/client/FrameKind" "SUBSCRIBED" "Lcom/example/feeder/feeder/client/FrameKind;" (.ref m3) := Sta.start e_m3 (Or.inr ⟨(hw _ (List.mem_of_getElem? (i := 2) rfl)), (hw _ (List.mem_of_getElem? (i := 22) rfl))⟩)
  obtain ⟨m4, e_m4⟩ := exa_v hn23a
  have S_SYNC : Sta s s.heap "com/example/feeder/feeder/client/FrameKind" "SYNC" "Lcom/example/feeder/feeder/client/FrameKind;" (.ref m4) := Sta.start e_m4 (Or.inr ⟨(hw _ (List.mem_of_getElem? (i := 2) rfl)), (hw _ (List.mem_of_getElem? (i := 31) rfl))⟩)
  obtain ⟨m5, e_m5⟩ := exa_v hn29a
  have S_SYNCED : Sta s s.heap "com/example/feeder/feeder/client/FrameKind" "SYNCED" "Lcom/example/feeder/feeder/client/FrameKind;" (.ref m5) := Sta.start e_m5 (Or.inr ⟨(hw _ (List.mem_of_getElem? (i := 2) rfl)), (hw _ (List.mem_of_getElem? (i := 37) rfl))⟩)
  obtain ⟨m6, e_m6⟩ := exa_v hn9a
  have S_ERROR : Sta s s.heap "com/example/feeder/feeder/client/FrameKind" "ERROR" "Lcom/example/feeder/feeder/client/FrameKind;" (.ref m6) := Sta.start e_m6 (Or.inr ⟨(hw _ (List.mem_of_getElem? (i := 2) rfl)), (hw _ (List.mem_of_getElem? (i := 16) rfl))⟩)
  obtain ⟨m7, e_m7⟩ := exa_v hn7a
  have S_LINK : Sta s s.heap "com/example/feeder/feeder/client/FrameKind" "LINK" "Lcom/example/feeder/feeder/client/FrameKind;" (.ref m7) := Sta.start e_m7 (Or.inr ⟨(hw _ (List.mem_of_getElem? (i := 2) rfl)), (hw _ (List.mem_of_getElem? (i := 14) rfl))⟩)
  obtain ⟨m8, e_m8⟩ := exa_v hn11a
  have S_TAKING : Sta s s.heap "com/example/feeder/feeder/client/FrameKind" "TAKING" "Lcom/example/feeder/feeder/client/FrameKind;" (.ref m8) := Sta.start e_m8 (Or.inr ⟨(hw _ (List.mem_of_getElem? (i := 2) rfl)), (hw _ (List.mem_of_getElem? (i := 18) rfl))⟩)
  obtain ⟨m9, e_m9⟩ := exa_v hn31a
  have S_STATUS : Sta s s.heap "com/example/feeder/feeder/client/FrameKind" "STATUS" "Lcom/example/feeder/feeder/client/FrameKind;" (.ref m9) := Sta.start e_m9 (Or.inr ⟨(hw _ (List.mem_of_getElem? (i := 2) rfl)), (hw _ (List.mem_of_getElem? (i := 38) rfl))⟩)
  obtain ⟨m10, e_m10⟩ := exa_v hn25a
  have S_COUNTS : Sta s s.heap "com/example/feeder/feeder/client/FrameKind" "COUNTS" "Lcom/example/feeder/feeder/client/FrameKind;" (.ref m10) := Sta.start e_m10 (Or.inr ⟨(hw _ (List.mem_of_getElem? (i := 2) rfl)), (hw _ (List.mem_of_getElem? (i := 33) rfl))⟩)
  obtain ⟨m11, e_m11⟩ := exa_v hn27a
  have S_NODE_STATUS : Sta s s.heap "com/example/feeder/feeder/client/FrameKind" "NODE_STATUS" "Lcom/example/feeder/feeder/client/FrameKind;" (.ref m11) := Sta.start e_m11 (Or.inr ⟨(hw _ (List.mem_of_getElem? (i := 2) rfl)), (hw _ (List.mem_of_getElem? (i := 35) rfl))⟩)
  obtain ⟨m12, e_m12⟩ := exa_v hn13a
  have S_CHALLENGE : Sta s s.heap "com/example/feeder/feeder/client/FrameKind" "CHALLENGE" "Lcom/example/feeder/feeder/client/FrameKind;" (.ref m12) := Sta.start e_m12 (Or.inr ⟨(hw _ (List.mem_of_getElem? (i := 2) rfl)), (hw _ (List.mem_of_getElem? (i := 20) rfl))⟩)
  obtain ⟨m13, e_m13⟩ := exa_v hn37a
  have S_PROOF : Sta s s.heap "com/example/feeder/feeder/client/FrameKind" "PROOF" "Lcom/example/feeder/feeder/client/FrameKind;" (.ref m13) := Sta.start e_m13 (Or.inr ⟨(hw _ (List.mem_of_getElem? (i := 2) rfl)), (hw _ (List.mem_of_getElem? (i := 45) rfl))⟩)
  obtain ⟨m14, e_m14⟩ := exa_v hn5a
  have S_TOPIC_REFUSED : Sta s s.heap "com/example/feeder/feeder/client/FrameKind" "TOPIC_REFUSED" "Lcom/example/feeder/feeder/client/FrameKind;" (.ref m14) := Sta.start e_m14 (Or.inr ⟨(hw _ (List.mem_of_getElem? (i := 2) rfl)), (hw _ (List.mem_of_getElem? (i := 12) rfl))⟩)
  obtain ⟨m15, e_m15⟩ := exa_v hn39a
  have S_UNSUBSCRIBE : Sta s s.heap "com/example/feeder/feeder/client/FrameKind" "UNSUBSCRIBE" "Lcom/example/feeder/feeder/client/FrameKind;" (.ref m15) := Sta.start e_m15 (Or.inr ⟨(hw _ (List.mem_of_getElem? (i := 2) rfl)), (hw _ (List.mem_of_getElem? (i := 47) rfl))⟩)
  obtain ⟨m16, e_m16⟩ := exa_v hn35a
  have S_HELLO : Sta s s.heap "com/example/feeder/feeder/client/FrameKind" "HELLO" "Lcom/example/feeder/feeder/client/FrameKind;" (.ref m16) := Sta.start e_m16 (Or.inr ⟨(hw _ (List.mem_of_getElem? (i := 2) rfl)), (hw _ (List.mem_of_getElem? (i := 43) rfl))⟩)
  obtain ⟨m17, e_m17⟩ := exa_v hn17a
  have S_DELIVERED : Sta s s.heap "com/example/feeder/feeder/client/FrameKind" "DELIVERED" "Lcom/example/feeder/feeder/client/FrameKind;" (.ref m17) := Sta.start e_m17 (Or.inr ⟨(hw _ (List.mem_of_getElem? (i := 2) rfl)), (hw _ (List.mem_of_getElem? (i := 24) rfl))⟩)
  obtain ⟨m18, e_m18⟩ := exa_v hn33a
  have S_SUBSCRIBER_LOST : Sta s s.heap "com/example/feeder/feeder/client/FrameKind" "SUBSCRIBER_LOST" "Lcom/example/feeder/feeder/client/FrameKind;" (.ref m18) := Sta.start e_m18 (Or.inr ⟨(hw _ (List.mem_of_getElem? (i := 2) rfl)), (hw _ (List.mem_of_getElem? (i := 41) rfl))⟩)
  obtain ⟨m19, e_m19⟩ := exa_v hn19a
  have S_SUBSCRIBER_BACK : Sta s s.heap "com/example/feeder/feeder/client/FrameKind" "SUBSCRIBER_BACK" "Lcom/example/feeder/feeder/client/FrameKind;" (.ref m19) := Sta.start e_m19 (Or.inr ⟨(hw _ (List.mem_of_getElem? (i := 2) rfl)), (hw _ (List.mem_of_getElem? (i := 27) rfl))⟩)
  obtain ⟨kb, hkb⟩ := arr_v hn2a
  obtain ⟨cl, A⟩ := Arr.start hkb hn2a
  have S_BY : Sta s s.heap "com/example/feeder/feeder/client/FrameKind" "BY_CODE" "[Lcom/example/feeder/feeder/client/FrameKind;" (.ref kb) := Sta.start hkb (Or.inr ⟨(hw _ (List.mem_of_getElem? (i := 2) rfl)), (hw _ (List.mem_of_getElem? (i := 7) rfl))⟩)
  have hlen := Cond.eq_int (Cond.before_iff.mpr hn3a) rfl
  have hat' : s.arrayAt? kb = some cl := Arr.fin (State.Warmed39.refl s).alike A
  have h31 := SBG.length_lt hkb hat' hlen
  have esz : cl.slots.size.toInt32 = 20 := Value.int.inj (Option.some.inj ((len_f hkb hat' h31).symm.trans hlen))
  have s0 := (elem_in (null_v hn4a) hkb rfl A.1).2
  have s1 := (elem_in (own_eqref hn40b e_m1) hkb rfl A.1).2
  have s2 := (elem_in (own_eqref hn22a e_m2) hkb rfl A.1).2
  have s3 := (elem_in (own_eqref hn16a e_m3) hkb rfl A.1).2
  have s4 := (elem_in (own_eqref hn24a e_m4) hkb rfl A.1).2
  have s5 := (elem_in (own_eqref hn30a e_m5) hkb rfl A.1).2
  have s6 := (elem_in (own_eqref hn10a e_m6) hkb rfl A.1).2
  have s7 := (elem_in (own_eqref hn8a e_m7) hkb rfl A.1).2
  have s8 := (elem_in (own_eqref hn12a e_m8) hkb rfl A.1).2
  have s9 := (elem_in (own_eqref hn32a e_m9) hkb rfl A.1).2
  have s10 := (elem_in (own_eqref hn26a e_m10) hkb rfl A.1).2
  have s11 := (elem_in (own_eqref hn28a e_m11) hkb rfl A.1).2
  have s12 := (elem_in (own_eqref hn14a e_m12) hkb rfl A.1).2
  have s13 := (elem_in (own_eqref hn38a e_m13) hkb rfl A.1).2
  have s14 := (elem_in (own_eqref hn6a e_m14) hkb rfl A.1).2
  have s15 := (elem_in (own_eqref hn40a e_m15) hkb rfl A.1).2
  have s16 := (elem_in (own_eqref hn36a e_m16) hkb rfl A.1).2
  have s17 := (elem_in (own_eqref hn18a e_m17) hkb rfl A.1).2
  have s18 := (elem_in (own_eqref hn34a e_m18) hkb rfl A.1).2
  have s19 := (elem_in (own_eqref hn20a e_m19) hkb rfl A.1).2
  have V0 : Arv s s.heap kb cl.cls (.object "com/example/feeder/feeder/client/FrameKind") (20 : Int32) [.null, (.ref m1), (.ref m2), (.ref m3), (.ref m4), (.ref m5), (.ref m6), (.ref m7), (.ref m8), (.ref m9), (.ref m10), (.ref m11), (.ref m12), (.ref m13), (.ref m14), (.ref m15), (.ref m16), (.ref m17), (.ref m18), (.ref m19)] .null := Arv.start hfit A h31 esz (by decide) rfl ⟨s0, s1, s2, s3, s4, s5, s6, s7, s8, s9, s10, s11, s12, s13, s14, s15, s16, s17, s18, s19, trivial⟩
  obtain ⟨n, o, h1, h2, h3, _, L, rfl, ⟨rfl, N⟩, hq⟩ := own_rm_law l s _ hw tables_1 i0 i1 m1 m2 m3 m4 m5 m6 m7 m8 m9 m10 m11 m12 m13 m14 m15 m16 m17 m18 m19 kb cl.cls s.heap s.heap.size (Nat.le_refl _) S_MESSAGE S_SUBSCRIBE S_SUBSCRIBED S_SYNC S_SYNCED S_ERROR S_LINK S_TAKING S_STATUS S_COUNTS S_NODE_STATUS S_CHALLENGE S_PROOF S_TOPIC_REFUSED S_UNSUBSCRIBE S_HELLO S_DELIVERED S_SUBSCRIBER_LOST S_SUBSCRIBER_BACK S_BY V0 p e ha hc hk s m _ below hf ((Spec.applies_iff_loose hf).mp happ).1 ⟨rfl, State.Warmed39.refl s, rfl⟩ trivial
  refine ⟨n, _, h1, h2, h3, hpost _ _ _ _ _ _ ⟨Cond.after_iff.mpr rfl, Cond.after_iff.mpr (eq_i res_at (Term.int_eval (1)) rfl), trivial⟩ ⟨hq.1, hq.2.1, (hq.2.2.sift fun y hy => Or.inr (N y hy)).mono (by decide) (by decide)⟩⟩
theorem main_1_1 : Claimed_1_1 := own_comes fun _ _ _ _ _ _ h hF => ⟨h.1, hF⟩
theorem main_1_2 : Claimed_1_2 := own_comes fun _ _ _ _ _ _ h hF => ⟨h.2.1, hF⟩
end Jvm.Pilot.@@N@@
namespace Jvm.Pilot.@@N@@
open Jvm Jvm.ClassFile Sem Op Lib Jvm.Free Jvm.Stand Jvm.Pilot.@@N@@.Jvm.D
/-! MADE BY PROGRAM (witnessworld.py) out of the Statement's table words and the real class files: 13 classes; the members and pool entries that the words name. The judged class is class 1, her method 2. -/
namespace start1
open Jvm.ClassFile
def u (s : String) : CpInfo := .utf8 (stringToUtf16 s)
/-- a pool by its gaps: so many unusable entries, then the entry; so many at the end -/
def gap : Nat → List CpInfo → List CpInfo
  | 0, r => r
  | n + 1, r => .unusable :: gap n r
def poolList (es : List (Nat × CpInfo)) (last : Nat) : List CpInfo := es.foldr (fun e r => gap e.1 (e.2 :: r)) (gap last [])
def pool (es : List (Nat × CpInfo)) (last : Nat) : Array CpInfo := ⟨poolList es last⟩
def fileOf (pool : Array CpInfo) (this : Nat) (attrs : Array Attribute := #[]) (ms : Array MethodInfo := #[]) (fl : Nat := 33) (sup : Nat := 0) (ifs : Array Nat := #[]) (fds : Array FieldInfo := #[]) : ClassFile where
  minorVersion := 0
  majorVersion := 65
  constantPool := pool
  accessFlags := fl
  thisClass := this
  superClass := sup
  interfaces := ifs
  fields := fds
  methods := ms
  attributes := attrs
def plain (name : String) (sup : Option ClassId) : Class where
  name := name
  kind := .ordinary
  loader := none
  accessFlags := 33
  super := sup
  interfaces := #[]
  cf := none
  fields := #[]
  methods := #[]
  instanceTypes := #[]
  staticTypes := #[]
  resolved := #[]
  callSites := []
  init := .initialized
  statics := none
  mirror := none

def pool0 : Array CpInfo := pool [(5, u "<init>"), (0, u "()V"), (1, .class_ 10), (1, u "java/lang/Object")] 113

def k0m0 : Method := { name := "<init>", desc := "()V", sig := { parameters := [], returnType := none }, accessFlags := 1, code := none }
/-- java/lang/Object -/
def k0 : Class := { plain "java/lang/Object" none with
  accessFlags := 33
  interfaces := #[]
  cf := some (fileOf pool0 8 #[] #[{ accessFlags := 1, nameIndex := 5, descriptorIndex := 6, attributes := #[] }] 33 0 #[] #[])
  fields := #[]
  methods := #[k0m0]
  instanceTypes := #[]
  staticTypes := #[]
  resolved := Array.replicate 124 none
  statics := none }

def pool1 : Array CpInfo := pool [(2, .class_ 4), (1, u "java/lang/Object"), (0, u "<init>"), (0, u "()V"), (0, .fieldref 8 9), (0, .class_ 10), (0, .nameAndType 11 12), (0, u "com/example/feeder/feeder/client/FrameKind"), (0, u "MESSAGE"), (0, u "Lcom/example/feeder/feeder/client/FrameKind;"), (0, .fieldref 8 14), (0, .nameAndType 15 12), (0, u "SUBSCRIBE"), (0, .fieldref 8 17), (0, .nameAndType 18 12), (0, u "SUBSCRIBED"), (0, .fieldref 8 20), (0, .nameAndType 21 12), (0, u "SYNC"), (0, .fieldref 8 23), (0, .nameAndType 24 12), (0, u "SYNCED"), (0, .fieldref 8 26), (0, .nameAndType 27 12), (0, u "ERROR"), (0, .fieldref 8 29), (0, .nameAndType 30 12), (0, u "LINK"), (0, .fieldref 8 32), (0, .nameAndType 33 12), (0, u "TAKING"), (0, .fieldref 8 35), (0, .nameAndType 36 12), (0, u "STATUS"), (0, .fieldref 8 38), (0, .nameAndType 39 12), (0, u "COUNTS"), (0, .fieldref 8 41), (0, .nameAndType 42 12), (0, u "NODE_STATUS"), (0, .fieldref 8 44), (0, .nameAndType 45 12), (0, u "CHALLENGE"), (0, .fieldref 8 47), (0, .nameAndType 48 12), (0, u "PROOF"), (0, .fieldref 8 50), (0, .nameAndType 51 12), (0, u "TOPIC_REFUSED"), (0, .fieldref 8 53), (0, .nameAndType 54 12), (0, u "UNSUBSCRIBE"), (0, .fieldref 8 56), (0, .nameAndType 57 12), (0, u "HELLO"), (0, .fieldref 8 59), (0, .nameAndType 60 12), (0, u "DELIVERED"), (0, .fieldref 8 62), (0, .nameAndType 63 12), (0, u "SUBSCRIBER_LOST"), (0, .fieldref 8 65), (0, .nameAndType 66 12), (0, u "SUBSCRIBER_BACK"), (0, .methodref 8 68), (0, .nameAndType 69 70), (0, u "ofCode"), (0, u "(I)Lcom/example/feeder/feeder/client/FrameKind;"), (0, .methodref 72 73), (0, .class_ 74), (0, .nameAndType 75 70), (0, u "com/example/feeder/feeder/client/FrameKindOfCodePinLaw"), (0, u "expected"), (3, u "law"), (0, u "(II)Z")] 2

def k1m0 : Method := { name := "<init>", desc := "()V", sig := { parameters := [], returnType := none }, accessFlags := 2, code := none }
def k1c1 : Code := { maxStack := 2, maxLocals := 1, code := method_2_code, exceptionTable := #[], attributes := #[] }
def k1m1 : Method := { name := "expected", desc := "(I)Lcom/example/feeder/feeder/client/FrameKind;", sig := { parameters := [.int], returnType := some (.object "com/example/feeder/feeder/client/FrameKind") }, accessFlags := 10, code := some k1c1 }
def k1c2 : Code := { maxStack := 2, maxLocals := 5, code := code, exceptionTable := #[], attributes := #[] }
def k1m2 : Method := { name := "law", desc := "(II)Z", sig := { parameters := [.int, .int], returnType := some .boolean }, accessFlags := 9, code := some k1c2 }
/-- com/example/feeder/feeder/client/FrameKindOfCodePinLaw -/
def k1 : Class := { plain "com/example/feeder/feeder/client/FrameKindOfCodePinLaw" (some 0) with
  accessFlags := 49
  interfaces := #[]
  cf := some (fileOf pool1 72 #[] #[{ accessFlags := 2, nameIndex := 5, descriptorIndex := 6, attributes := #[] }, { accessFlags := 10, nameIndex := 75, descriptorIndex := 70, attributes := #[] }, { accessFlags := 9, nameIndex := 79, descriptorIndex := 80, attributes := #[] }] 49 2 #[] #[])
  fields := #[]
  methods := #[k1m0, k1m1, k1m2]
  instanceTypes := #[]
  staticTypes := #[]
  resolved := Array.replicate 83 none
  statics := none }

def pool2 : Array CpInfo := pool [(1, .class_ 2), (0, u "java/lang/constant/Constable"), (0, .class_ 4), (0, u "java/lang/Object")] 6

/-- java/lang/constant/Constable -/
def k2 : Class := { plain "java/lang/constant/Constable" (some 0) with
  accessFlags := 1537
  interfaces := #[]
  cf := some (fileOf pool2 1 #[] #[] 1537 3 #[] #[])
  fields := #[]
  methods := #[]
  instanceTypes := #[]
  staticTypes := #[]
  resolved := Array.replicate 11 none
  statics := none }

def pool3 : Array CpInfo := pool [(1, .class_ 2), (0, u "java/lang/Comparable"), (0, .class_ 4), (0, u "java/lang/Object")] 7

/-- java/lang/Comparable -/
def k3 : Class := { plain "java/lang/Comparable" (some 0) with
  accessFlags := 1537
  interfaces := #[]
  cf := some (fileOf pool3 1 #[] #[] 1537 3 #[] #[])
  fields := #[]
  methods := #[]
  instanceTypes := #[]
  staticTypes := #[]
  resolved := Array.replicate 12 none
  statics := none }

def pool4 : Array CpInfo := pool [(1, .class_ 2), (0, u "java/io/Serializable"), (0, .class_ 4), (0, u "java/lang/Object")] 2

/-- java/io/Serializable -/
def k4 : Class := { plain "java/io/Serializable" (some 0) with
  accessFlags := 1537
  interfaces := #[]
  cf := some (fileOf pool4 1 #[] #[] 1537 3 #[] #[])
  fields := #[]
  methods := #[]
  instanceTypes := #[]
  staticTypes := #[]
  resolved := Array.replicate 7 none
  statics := none }

def pool5 : Array CpInfo := pool [(2, .class_ 4), (1, u "java/lang/Enum"), (0, u "name"), (0, u "Ljava/lang/String;"), (2, u "ordinal"), (0, u "I"), (1, .class_ 14), (1, u "java/lang/Object"), (4, u "hash"), (86, .class_ 108), (1, u "java/lang/Enum$EnumDesc"), (2, .class_ 112), (0, u "java/lang/constant/Constable"), (0, .class_ 114), (0, u "java/lang/Comparable"), (0, .class_ 116), (0, u "java/io/Serializable")] 87

/-- java/lang/Enum -/
def k5 : Class := { plain "java/lang/Enum" (some 0) with
  accessFlags := 1057
  interfaces := #[2, 3, 4]
  cf := some (fileOf pool5 2 #[.nestMembers #[106]] #[] 1057 12 #[111, 113, 115] #[{ accessFlags := 18, nameIndex := 5, descriptorIndex := 6, attributes := #[] }, { accessFlags := 18, nameIndex := 9, descriptorIndex := 10, attributes := #[] }, { accessFlags := 2, nameIndex := 19, descriptorIndex := 10, attributes := #[] }])
  fields := #[{ name := "name", type := (.object "java/lang/String"), accessFlags := 18, slot := 0, constantValue := 0 }, { name := "ordinal", type := .int, accessFlags := 18, slot := 1, constantValue := 0 }, { name := "hash", type := .int, accessFlags := 2, slot := 2, constantValue := 0 }]
  methods := #[]
  instanceTypes := #[(.object "java/lang/String"), .int, .int]
  staticTypes := #[]
  resolved := Array.replicate 204 none
  statics := none }

def pool6 : Array CpInfo := pool [(1, .class_ 2), (0, u "com/example/feeder/feeder/client/FrameKind"), (0, .fieldref 1 4), (0, .nameAndType 5 6), (0, u "MESSAGE"), (0, u "Lcom/example/feeder/feeder/client/FrameKind;"), (2, u "SUBSCRIBE"), (2, u "SUBSCRIBED"), (2, u "SYNC"), (2, u "SYNCED"), (2, u "ERROR"), (2, u "LINK"), (2, u "TAKING"), (2, u "STATUS"), (2, u "COUNTS"), (2, u "NODE_STATUS"), (2, u "CHALLENGE"), (2, u "PROOF"), (2, u "TOPIC_REFUSED"), (2, u "UNSUBSCRIBE"), (2, u "HELLO"), (2, u "DELIVERED"), (2, u "SUBSCRIBER_LOST"), (2, u "SUBSCRIBER_BACK"), (2, u "$VALUES"), (0, u "[Lcom/example/feeder/feeder/client/FrameKind;"), (6, .class_ 73), (1, u "java/lang/Enum"), (8, u "code"), (0, u "I"), (2, u "hasTopic"), (0, u "Z"), (2, u "hasIdentity"), (2, u "hasPayload"), (0, .fieldref 1 95), (0, .nameAndType 96 64), (0, u "BY_CODE"), (2, u "TOPIC_CODES"), (2, u "IDENTITY_CODES"), (2, u "PAYLOAD_CODES"), (29, u "MESSAGE_CODE"), (8, u "ofCode"), (0, u "(I)Lcom/example/feeder/feeder/client/FrameKind;")] 12

def k6c0 : Code := { maxStack := 2, maxLocals := 2, code := prog_29_method_4_code, exceptionTable := #[], attributes := #[] }
def k6m0 : Method := { name := "ofCode", desc := "(I)Lcom/example/feeder/feeder/client/FrameKind;", sig := { parameters := [.int], returnType := some (.object "com/example/feeder/feeder/client/FrameKind") }, accessFlags := 8, code := some k6c0 }
/-- com/example/feeder/feeder/client/FrameKind -/
def k6 : Class := { plain "com/example/feeder/feeder/client/FrameKind" (some 5) with
  accessFlags := 16433
  interfaces := #[]
  cf := some (fileOf pool6 1 #[] #[{ accessFlags := 8, nameIndex := 144, descriptorIndex := 145, attributes := #[] }] 16433 71 #[] #[{ accessFlags := 16409, nameIndex := 5, descriptorIndex := 6, attributes := #[] }, { accessFlags := 16409, nameIndex := 9, descriptorIndex := 6, attributes := #[] }, { accessFlags := 16409, nameIndex := 12, descriptorIndex := 6, attributes := #[] }, { accessFlags := 16409, nameIndex := 15, descriptorIndex := 6, attributes := #[] }, { accessFlags := 16409, nameIndex := 18, descriptorIndex := 6, attributes := #[] }, { accessFlags := 16409, nameIndex := 21, descriptorIndex := 6, attributes := #[] }, { accessFlags := 16409, nameIndex := 24, descriptorIndex := 6, attributes := #[] }, { accessFlags := 16409, nameIndex := 27, descriptorIndex := 6, attributes := #[] }, { accessFlags := 16409, nameIndex := 30, descriptorIndex := 6, attributes := #[] }, { accessFlags := 16409, nameIndex := 33, descriptorIndex := 6, attributes := #[] }, { accessFlags := 16409, nameIndex := 36, descriptorIndex := 6, attributes := #[] }, { accessFlags := 16409, nameIndex := 39, descriptorIndex := 6, attributes := #[] }, { accessFlags := 16409, nameIndex := 42, descriptorIndex := 6, attributes := #[] }, { accessFlags := 16409, nameIndex := 45, descriptorIndex := 6, attributes := #[] }, { accessFlags := 16409, nameIndex := 48, descriptorIndex := 6, attributes := #[] }, { accessFlags := 16409, nameIndex := 51, descriptorIndex := 6, attributes := #[] }, { accessFlags := 16409, nameIndex := 54, descriptorIndex := 6, attributes := #[] }, { accessFlags := 16409, nameIndex := 57, descriptorIndex := 6, attributes := #[] }, { accessFlags := 16409, nameIndex := 60, descriptorIndex := 6, attributes := #[] }, { accessFlags := 26, nameIndex := 135, descriptorIndex := 83, attributes := #[] }, { accessFlags := 26, nameIndex := 96, descriptorIndex := 64, attributes := #[] }, { accessFlags := 26, nameIndex := 99, descriptorIndex := 83, attributes := #[] }, { accessFlags := 26, nameIndex := 102, descriptorIndex := 83, attributes := #[] }, { accessFlags := 26, nameIndex := 105, descriptorIndex := 83, attributes := #[] }, { accessFlags := 18, nameIndex := 82, descriptorIndex := 83, attributes := #[] }, { accessFlags := 18, nameIndex := 86, descriptorIndex := 87, attributes := #[] }, { accessFlags := 18, nameIndex := 90, descriptorIndex := 87, attributes := #[] }, { accessFlags := 18, nameIndex := 93, descriptorIndex := 87, attributes := #[] }, { accessFlags := 4122, nameIndex := 63, descriptorIndex := 64, attributes := #[] }])
  fields := #[{ name := "MESSAGE", type := (.object "com/example/feeder/feeder/client/FrameKind"), accessFlags := 16409, slot := 0, constantValue := 0 }, { name := "SUBSCRIBE", type := (.object "com/example/feeder/feeder/client/FrameKind"), accessFlags := 16409, slot := 1, constantValue := 0 }, { name := "SUBSCRIBED", type := (.object "com/example/feeder/feeder/client/FrameKind"), accessFlags := 16409, slot := 2, constantValue := 0 }, { name := "SYNC", type := (.object "com/example/feeder/feeder/client/FrameKind"), accessFlags := 16409, slot := 3, constantValue := 0 }, { name := "SYNCED", type := (.object "com/example/feeder/feeder/client/FrameKind"), accessFlags := 16409, slot := 4, constantValue := 0 }, { name := "ERROR", type := (.object "com/example/feeder/feeder/client/FrameKind"), accessFlags := 16409, slot := 5, constantValue := 0 }, { name := "LINK", type := (.object "com/example/feeder/feeder/client/FrameKind"), accessFlags := 16409, slot := 6, constantValue := 0 }, { name := "TAKING", type := (.object "com/example/feeder/feeder/client/FrameKind"), accessFlags := 16409, slot := 7, constantValue := 0 }, { name := "STATUS", type := (.object "com/example/feeder/feeder/client/FrameKind"), accessFlags := 16409, slot := 8, constantValue := 0 }, { name := "COUNTS", type := (.object "com/example/feeder/feeder/client/FrameKind"), accessFlags := 16409, slot := 9, constantValue := 0 }, { name := "NODE_STATUS", type := (.object "com/example/feeder/feeder/client/FrameKind"), accessFlags := 16409, slot := 10, constantValue := 0 }, { name := "CHALLENGE", type := (.object "com/example/feeder/feeder/client/FrameKind"), accessFlags := 16409, slot := 11, constantValue := 0 }, { name := "PROOF", type := (.object "com/example/feeder/feeder/client/FrameKind"), accessFlags := 16409, slot := 12, constantValue := 0 }, { name := "TOPIC_REFUSED", type := (.object "com/example/feeder/feeder/client/FrameKind"), accessFlags := 16409, slot := 13, constantValue := 0 }, { name := "UNSUBSCRIBE", type := (.object "com/example/feeder/feeder/client/FrameKind"), accessFlags := 16409, slot := 14, constantValue := 0 }, { name := "HELLO", type := (.object "com/example/feeder/feeder/client/FrameKind"), accessFlags := 16409, slot := 15, constantValue := 0 }, { name := "DELIVERED", type := (.object "com/example/feeder/feeder/client/FrameKind"), accessFlags := 16409, slot := 16, constantValue := 0 }, { name := "SUBSCRIBER_LOST", type := (.object "com/example/feeder/feeder/client/FrameKind"), accessFlags := 16409, slot := 17, constantValue := 0 }, { name := "SUBSCRIBER_BACK", type := (.object "com/example/feeder/feeder/client/FrameKind"), accessFlags := 16409, slot := 18, constantValue := 0 }, { name := "MESSAGE_CODE", type := .int, accessFlags := 26, slot := 19, constantValue := 0 }, { name := "BY_CODE", type := (.array (.object "com/example/feeder/feeder/client/FrameKind")), accessFlags := 26, slot := 20, constantValue := 0 }, { name := "TOPIC_CODES", type := .int, accessFlags := 26, slot := 21, constantValue := 0 }, { name := "IDENTITY_CODES", type := .int, accessFlags := 26, slot := 22, constantValue := 0 }, { name := "PAYLOAD_CODES", type := .int, accessFlags := 26, slot := 23, constantValue := 0 }, { name := "code", type := .int, accessFlags := 18, slot := 3, constantValue := 0 }, { name := "hasTopic", type := .boolean, accessFlags := 18, slot := 4, constantValue := 0 }, { name := "hasIdentity", type := .boolean, accessFlags := 18, slot := 5, constantValue := 0 }, { name := "hasPayload", type := .boolean, accessFlags := 18, slot := 6, constantValue := 0 }, { name := "$VALUES", type := (.array (.object "com/example/feeder/feeder/client/FrameKind")), accessFlags := 4122, slot := 24, constantValue := 0 }]
  methods := #[k6m0]
  instanceTypes := #[(.object "java/lang/String"), .int, .int, .int, .boolean, .boolean, .boolean]
  staticTypes := #[(.object "com/example/feeder/feeder/client/FrameKind"), (.object "com/example/feeder/feeder/client/FrameKind"), (.object "com/example/feeder/feeder/client/FrameKind"), (.object "com/example/feeder/feeder/client/FrameKind"), (.object "com/example/feeder/feeder/client/FrameKind"), (.object "com/example/feeder/feeder/client/FrameKind"), (.object "com/example/feeder/feeder/client/FrameKind"), (.object "com/example/feeder/feeder/client/FrameKind"), (.object "com/example/feeder/feeder/client/FrameKind"), (.object "com/example/feeder/feeder/client/FrameKind"), (.object "com/example/feeder/feeder/client/FrameKind"), (.object "com/example/feeder/feeder/client/FrameKind"), (.object "com/example/feeder/feeder/client/FrameKind"), (.object "com/example/feeder/feeder/client/FrameKind"), (.object "com/example/feeder/feeder/client/FrameKind"), (.object "com/example/feeder/feeder/client/FrameKind"), (.object "com/example/feeder/feeder/client/FrameKind"), (.object "com/example/feeder/feeder/client/FrameKind"), (.object "com/example/feeder/feeder/client/FrameKind"), .int, (.array (.object "com/example/feeder/feeder/client/FrameKind")), .int, .int, .int, (.array (.object "com/example/feeder/feeder/client/FrameKind"))]
  resolved := Array.replicate 158 none
  statics := some 0 }

def pool7 : Array CpInfo := pool [(1, u "java/lang/Cloneable"), (0, .class_ 1), (0, u "java/lang/Object"), (0, .class_ 3)] 3

/-- java/lang/Cloneable -/
def k7 : Class := { plain "java/lang/Cloneable" (some 0) with
  accessFlags := 1537
  interfaces := #[]
  cf := some (fileOf pool7 2 #[] #[] 1537 4 #[] #[])
  fields := #[]
  methods := #[]
  instanceTypes := #[]
  staticTypes := #[]
  resolved := Array.replicate 8 none
  statics := none }

/-- the primitive byte -/
def k8 : Class := { plain "byte" none with kind := .primitive 'B', accessFlags := 0x411 }
/-- [B -/
def k9 : Class := { plain "[B" (some 0) with kind := .array 8 .byte, interfaces := #[7, 4], accessFlags := 1041 }

/-- the primitive int -/
def k10 : Class := { plain "int" none with kind := .primitive 'I', accessFlags := 0x411 }
/-- [I -/
def k11 : Class := { plain "[I" (some 0) with kind := .array 10 .int, interfaces := #[7, 4], accessFlags := 1041 }

/-- [Lcom/example/feeder/feeder/client/FrameKind; -/
def k12 : Class := { plain "[Lcom/example/feeder/feeder/client/FrameKind;" (some 0) with kind := .array 6 (.object "com/example/feeder/feeder/client/FrameKind"), interfaces := #[7, 4], accessFlags := 1041 }

def heap : Heap := #[{ cls := 6, slots := #[.ref 2, .ref 3, .ref 4, .ref 5, .ref 6, .ref 7, .ref 8, .ref 9, .ref 10, .ref 11, .ref 12, .ref 13, .ref 14, .ref 15, .ref 16, .ref 17, .ref 18, .ref 19, .ref 20, .int 0, .ref 1, .int 0, .int 0, .int 0, .null], vm := .statics 6 },
  { cls := 12, slots := #[.null, .ref 2, .ref 3, .ref 4, .ref 5, .ref 6, .ref 7, .ref 8, .ref 9, .ref 10, .ref 11, .ref 12, .ref 13, .ref 14, .ref 15, .ref 16, .ref 17, .ref 18, .ref 19, .ref 20], vm := .none },
  { cls := 6, slots := #[.null, .int 0, .int 0, .int 0, .int 0, .int 0, .int 0], vm := .none },
  { cls := 6, slots := #[.null, .int 0, .int 0, .int 0, .int 0, .int 0, .int 0], vm := .none },
  { cls := 6, slots := #[.null, .int 0, .int 0, .int 0, .int 0, .int 0, .int 0], vm := .none },
  { cls := 6, slots := #[.null, .int 0, .int 0, .int 0, .int 0, .int 0, .int 0], vm := .none },
  { cls := 6, slots := #[.null, .int 0, .int 0, .int 0, .int 0, .int 0, .int 0], vm := .none },
  { cls := 6, slots := #[.null, .int 0, .int 0, .int 0, .int 0, .int 0, .int 0], vm := .none },
  { cls := 6, slots := #[.null, .int 0, .int 0, .int 0, .int 0, .int 0, .int 0], vm := .none },
  { cls := 6, slots := #[.null, .int 0, .int 0, .int 0, .int 0, .int 0, .int 0], vm := .none },
  { cls := 6, slots := #[.null, .int 0, .int 0, .int 0, .int 0, .int 0, .int 0], vm := .none },
  { cls := 6, slots := #[.null, .int 0, .int 0, .int 0, .int 0, .int 0, .int 0], vm := .none },
  { cls := 6, slots := #[.null, .int 0, .int 0, .int 0, .int 0, .int 0, .int 0], vm := .none },
  { cls := 6, slots := #[.null, .int 0, .int 0, .int 0, .int 0, .int 0, .int 0], vm := .none },
  { cls := 6, slots := #[.null, .int 0, .int 0, .int 0, .int 0, .int 0, .int 0], vm := .none },
  { cls := 6, slots := #[.null, .int 0, .int 0, .int 0, .int 0, .int 0, .int 0], vm := .none },
  { cls := 6, slots := #[.null, .int 0, .int 0, .int 0, .int 0, .int 0, .int 0], vm := .none },
  { cls := 6, slots := #[.null, .int 0, .int 0, .int 0, .int 0, .int 0, .int 0], vm := .none },
  { cls := 6, slots := #[.null, .int 0, .int 0, .int 0, .int 0, .int 0, .int 0], vm := .none },
  { cls := 6, slots := #[.null, .int 0, .int 0, .int 0, .int 0, .int 0, .int 0], vm := .none },
  { cls := 6, slots := #[.null, .int 0, .int 0, .int 0, .int 0, .int 0, .int 0], vm := .none }]
def classes : Array Class := #[k0, k1, k2, k3, k4, k5, k6, k7, k8, k9, k10, k11, k12]
def interned : List (Array UInt16 × Addr) := []
def slotsUsed : Nat := 178
def theMethod : MethodId := ⟨1, 2⟩
def args0 : Array Value := #[.int 5, .int 5]
def aboutOver (below : List Frame) : State where
  vm := { classes := classes, interned := interned.toArray }
  heap := heap
  slotsUsed := slotsUsed
  threads := #[{ frames := .invoking theMethod args0 :: below }]
def below0 : List Frame := [.native { method := ⟨0, 0⟩, args := #[] }]
def about1 : State := aboutOver below0
def p0 : Program := .bare "" "" ""
def e0 : Env := launch0.env 0 0 0
theorem w_frames : about1.frames = Frame.invoking theMethod args0 :: below0 := rfl
set_option maxRecDepth 65536 in
theorem w_args : argsFit about1.vm theMethod args0 = true := by decide +kernel
set_option maxRecDepth 65536 in
theorem w_heap : heapFits about1 = true := by decide +kernel
set_option maxRecDepth 65536 in
theorem w_runnable : about1.curStatus? = some .runnable := by decide +kernel
set_option maxRecDepth 65536 in
theorem w_alone : about1.alone = true := by decide +kernel
set_option maxRecDepth 65536 in
theorem w_named : about1.methodNamed? x = some theMethod := by decide +kernel
set_option maxRecDepth 65536 in
theorem w_hears : about1.hears theMethod below0 = true := by decide +kernel
set_option maxRecDepth 65536 in
theorem w_ripe : about1.ripe theMethod args0 below0 = true := by decide +kernel
theorem w_running : about1.status = .running := rfl
set_option maxRecDepth 65536 in
theorem w_room : about1.hasRoom e0.platform room_1 = true :=
  launch0.hasRoom_least _ room_1 (by decide +kernel) (by decide +kernel) (by decide +kernel) (by decide +kernel) (by decide +kernel) (by decide +kernel)
theorem allAtoms_all (ts : List Jvm.Cond) (a : Array Jvm.Value) (st : Jvm.State) : (allAtoms ts).before a st = ts.all (fun c => c.before a st) := by
  induction ts with
  | nil => rfl
  | cons c t ih =>
    show (Jvm.Cond.and c (allAtoms t)).before a st = _
    rw [Jvm.Cond.before_and, ih, List.all_cons]
def words1 : List Jvm.Cond := Jvm.Cond.code x code maxLocals ret :: tables_1
/-- a 'code' word, met by the world's own term for the bytes: nothing is compared byte by byte -/
theorem code_word {y : MethodName} {bytes : ByteArray} {mx : Nat} {rt : Option FieldType} {a : Array Value} {s : State} {m : MethodId} {meth : Method} {c : Code} (h1 : s.methodNamed? y = some m) (h2 : s.vm.method? m = some meth) (h3 : meth.code = some c) (h4 : c.code = bytes)
    (h5 : (c.maxLocals == mx && c.exceptionTable.isEmpty && decide (c.maxStack ≤ mostOperands) && decide (meth.sig.returnType = rt) && !meth.locks && decide (parseMethodDescriptor y.desc = some meth.sig)) = true) : (Jvm.Cond.code y bytes mx rt).before a s = true := by
  simp only [Bool.and_eq_true, beq_iff_eq, Bool.not_eq_true', decide_eq_true_eq] at h5
  obtain ⟨⟨⟨⟨⟨g1, g2⟩, g3⟩, g4⟩, g5⟩, g6⟩ := h5
  simp [Cond.before, Cond.holds, Cond.value, h1, h2, h3, h4, g1, g2, g3, g4, g5, g6]
def isCode : Jvm.Cond → Bool
  | .code _ _ _ _ => true
  | _ => false
theorem all_split {L : List Jvm.Cond} {P : Jvm.Cond → Bool} (h1 : L.all (fun c => isCode c || P c) = true) (h2 : ∀ c ∈ L.filter isCode, P c = true) : L.all P = true := by
  refine List.all_eq_true.mpr fun c hc => ?_
  have h := List.all_eq_true.mp h1 c hc
  rcases Bool.eq_false_or_eq_true (isCode c) with hi | hi
  · exact h2 c (List.mem_filter.mpr ⟨hc, hi⟩)
  · simpa [hi] using h
set_option maxRecDepth 65536 in
theorem w_c0 : (Jvm.Cond.code x code maxLocals ret).before args0 about1 = true := code_word (m := ⟨1, 2⟩) (meth := k1m2) (c := k1c2) (by decide +kernel) rfl rfl rfl (by decide +kernel)
set_option maxRecDepth 65536 in
theorem w_c1 : (Jvm.Cond.code ({ cls := "com/example/feeder/feeder/client/FrameKind", name := "ofCode", desc := "(I)Lcom/example/feeder/feeder/client/FrameKind;" } : Jvm.MethodName) prog_29_method_4_code (2 : Nat) (Option.some (Jvm.ClassFile.FieldType.object "com/example/feeder/feeder/client/FrameKind"))).before args0 about1 = true := code_word (m := ⟨6, 0⟩) (meth := k6m0) (c := k6c0) (by decide +kernel) rfl rfl rfl (by decide +kernel)
set_option maxRecDepth 65536 in
theorem w_c2 : (Jvm.Cond.code ({ cls := "com/example/feeder/feeder/client/FrameKindOfCodePinLaw", name := "expected", desc := "(I)Lcom/example/feeder/feeder/client/FrameKind;" } : Jvm.MethodName) method_2_code (1 : Nat) (Option.some (Jvm.ClassFile.FieldType.object "com/example/feeder/feeder/client/FrameKind"))).before args0 about1 = true := code_word (m := ⟨1, 1⟩) (meth := k1m1) (c := k1c1) (by decide +kernel) rfl rfl rfl (by decide +kernel)
def codes1 : List Jvm.Cond := [Jvm.Cond.code x code maxLocals ret, Jvm.Cond.code ({ cls := "com/example/feeder/feeder/client/FrameKind", name := "ofCode", desc := "(I)Lcom/example/feeder/feeder/client/FrameKind;" } : Jvm.MethodName) prog_29_method_4_code (2 : Nat) (Option.some (Jvm.ClassFile.FieldType.object "com/example/feeder/feeder/client/FrameKind")), Jvm.Cond.code ({ cls := "com/example/feeder/feeder/client/FrameKindOfCodePinLaw", name := "expected", desc := "(I)Lcom/example/feeder/feeder/client/FrameKind;" } : Jvm.MethodName) method_2_code (1 : Nat) (Option.some (Jvm.ClassFile.FieldType.object "com/example/feeder/feeder/client/FrameKind"))]
set_option maxRecDepth 65536 in
theorem codes_eq : words1.filter isCode = codes1 := rfl
theorem w_codes : ∀ c ∈ words1.filter isCode, c.before args0 about1 = true := by
  rw [codes_eq]
  intro c hc
  simp only [codes1, List.mem_cons, List.not_mem_nil, or_false] at hc
  rcases hc with rfl | rfl | rfl
  · exact w_c0
  · exact w_c1
  · exact w_c2
set_option maxRecDepth 65536 in
theorem w_t1 : (words1.take 24).all (fun c => isCode c || c.before args0 about1) = true := by decide +kernel
set_option maxRecDepth 65536 in
theorem w_t2 : ((words1.drop 24).take 24).all (fun c => isCode c || c.before args0 about1) = true := by decide +kernel
set_option maxRecDepth 65536 in
theorem w_t3 : ((words1.drop 24).drop 24).all (fun c => isCode c || c.before args0 about1) = true := by decide +kernel
theorem w_tables : (allAtoms (Jvm.Cond.code x code maxLocals ret :: tables_1)).before args0 about1 = true := by
  rw [allAtoms_all]
  show words1.all (fun c => c.before args0 about1) = true
  refine all_split ?_ w_codes
  rw [← List.take_append_drop 24 words1, List.all_append, w_t1, ← List.take_append_drop 24 (words1.drop 24), List.all_append, w_t2, w_t3]
  rfl
set_option maxRecDepth 65536 in
theorem w_case : (Jvm.Cond.and given_1 narrow_1).before args0 about1 = true := by decide +kernel
theorem w_applies : (headSpec (Jvm.Cond.code x code maxLocals ret :: tables_1) room_1).applies x e0.platform about1 = true :=
  (Spec.applies_iff w_frames).mpr ⟨w_running, w_runnable, w_alone, w_named, w_hears, w_ripe, w_room, w_tables⟩
theorem atStart : AtStart classFile x code maxLocals ret World_1 tables_1 room_1 Calls_1 rest_1 Pre_1 launch0 p0 e0 about1 theMethod args0 below0 :=
  ⟨lists_1, trivial, launch0.admits_env _ _ _, launch0.least_env, fairChoices_fair.cas, fairChoices_fair.clock, w_frames, w_args, w_heap, w_applies, trivial, trivial, w_case⟩
end start1
theorem witness_1 : WitnessClaimed_1 := ⟨start1.p0, start1.e0, start1.about1, start1.theMethod, start1.args0, start1.below0, start1.atStart⟩
end Jvm.Pilot.@@N@@
