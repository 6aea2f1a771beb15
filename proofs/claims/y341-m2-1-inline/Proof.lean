import JvmDerived
import JvmDerived.Pilot.@@N@@Statement
import JvmDerived.Pilot.@@N@@Code
set_option linter.unusedVariables false
set_option linter.unusedSimpArgs false
namespace Jvm.Pilot.@@N@@
open Jvm Jvm.ClassFile Sem Op Lib Jvm.Free Jvm.Stand Jvm.LawKit Jvm.RoadKit Bundle Jvm.Pilot.@@N@@.Jvm.D
theorem own_go {α β : Sort _} {A B : α → Prop} {P : α → β → Prop} (k : ∀ t, A t → B t) (h : ∃ t o, A t ∧ P t o) : ∃ t o, B t ∧ P t o := by
  obtain ⟨t, o, h1, h2⟩ := h
  exact ⟨t, o, k t h1, h2⟩
theorem own_abs {α β : Sort _} {A : α → Prop} {P : α → β → Prop} (h : ∀ P' : α → β → Prop, (∀ t o, P t o → P' t o) → ∃ t o, A t ∧ P' t o) : ∃ t o, A t ∧ P t o := h P fun _ _ q => q
theorem own_cat1 {v : Value} (h : v.isRef = true) : v.category = 1 := by rcases ref_cases h with rfl | ⟨_, rfl⟩ <;> rfl
theorem own_slot1 {v : Value} (h : v.isRef = true) : Slot.val v = .unset ∨ ∃ w, Slot.val v = .val w ∧ w.category = 1 := Or.inr ⟨v, rfl, own_cat1 h⟩
theorem own_nar {C : String} {w : Value} (h : w.isRef = true) : narrow (.object C) w = w := by rcases ref_cases h with rfl | ⟨_, rfl⟩ <;> rfl
abbrev oW (p : Program) (e : Env) (below : List Frame) (T : State) (g : JFrame) : State → Prop := Steps p.tables e below (T.setTop g)
abbrev oi (n : Int32) : Slot := .val (.int n)
abbrev oj (n : Int64) : Slot := .val (.long n)
abbrev od (n : UInt64) : Slot := .val (.double n)
abbrev oR (n : Addr) : Slot := .val (.ref n)
theorem own_ldD {p : Program} {l : Launch} {e : Env} {R : Room} {s : State} {m : MethodId} {args : Array Value} {below : List Frame} {meth : Method} {c : Code} {T : State} {locs : List Loc} {cells slots : Nat} {Z : State} {h : Heap} {a : Addr} {k : ClassId} {z : Int32} {vs : List Value} {dv : Value} (X : Stand p l e R s m args below meth c T locs cells slots) (hx : p.tables.exec = Jvm.exec) (hZ : Z.Warmed39 s.vm) (eT : T.heap = h) (F : Arv Z h a k .double z vs dv) {j : Int32} {v : Value} (hb : ¬ j < 0 ∧ j < z) (hv : vs.getD j.toNatClampNeg dv = v) {g : JFrame} (hg : g.method = m) {rest : List Value} (hs : g.stack = .int j :: .ref a :: rest) (hd : decode c.code g.pc = .ok (.daload, 1)) (target : State)
    (hr : Steps p.tables e below (T.setTop { g with pc := g.pc + 1, stack := v :: rest }) target) : Steps p.tables e below (T.setTop g) target := by
  obtain ⟨cl, A, -, S, -, H, -⟩ := F
  have hi := inb_of S hb
  exact X.daload hx (by rw [eT]; exact A.1) (State.isArrayOf_alike hZ.alike A.2.1) A.2.2 hi (H.at hi hv) hg hs hd target hr
theorem own_ldI {p : Program} {l : Launch} {e : Env} {R : Room} {s : State} {m : MethodId} {args : Array Value} {below : List Frame} {meth : Method} {c : Code} {T : State} {locs : List Loc} {cells slots : Nat} {Z : State} {h : Heap} {a : Addr} {k : ClassId} {z : Int32} {vs : List Value} {dv : Value} (X : Stand p l e R s m args below meth c T locs cells slots) (hx : p.tables.exec = Jvm.exec) (hZ : Z.Warmed39 s.vm) (eT : T.heap = h) (F : Arv Z h a k .int z vs dv) {j : Int32} {v : Value} (hb : ¬ j < 0 ∧ j < z) (hv : vs.getD j.toNatClampNeg dv = v) {g : JFrame} (hg : g.method = m) {rest : List Value} (hs : g.stack = .int j :: .ref a :: rest) (hd : decode c.code g.pc = .ok (.iaload, 1)) (target : State)
    (hr : Steps p.tables e below (T.setTop { g with pc := g.pc + 1, stack := v :: rest }) target) : Steps p.tables e below (T.setTop g) target := by
  obtain ⟨cl, A, -, S, -, H, -⟩ := F
  have hi := inb_of S hb
  exact X.iaload hx (by rw [eT]; exact A.1) (State.isArrayOf_alike hZ.alike A.2.1) A.2.2 hi (H.at hi hv) hg hs hd target hr
theorem own_ldA {p : Program} {l : Launch} {e : Env} {R : Room} {s : State} {m : MethodId} {args : Array Value} {below : List Frame} {meth : Method} {c : Code} {T : State} {locs : List Loc} {cells slots : Nat} {Z : State} {h : Heap} {a : Addr} {k : ClassId} {z : Int32} {vs : List Value} {dv : Value} {ty : FieldType} (X : Stand p l e R s m args below meth c T locs cells slots) (hx : p.tables.exec = Jvm.exec) (hZ : Z.Warmed39 s.vm) (eT : T.heap = h) (F : Arv Z h a k (.array ty) z vs dv) {j : Int32} {v : Value} (hb : ¬ j < 0 ∧ j < z) (hv : vs.getD j.toNatClampNeg dv = v) {g : JFrame} (hg : g.method = m) {rest : List Value} (hs : g.stack = .int j :: .ref a :: rest) (hd : decode c.code g.pc = .ok (.aaload, 1)) (target : State)
    (hr : Steps p.tables e below (T.setTop { g with pc := g.pc + 1, stack := v :: rest }) target) : Steps p.tables e below (T.setTop g) target := by
  obtain ⟨cl, A, -, S, -, H, -⟩ := F
  have hi := inb_of S hb
  exact X.aaload hx (by rw [eT]; exact A.1) (State.isArrayOf_alike hZ.alike A.2.1) rfl A.2.2 hi (H.at hi hv) hg hs hd target hr
theorem own_len2 {p : Program} {l : Launch} {e : Env} {R : Room} {s : State} {m : MethodId} {args : Array Value} {below : List Frame} {meth : Method} {c : Code} {T : State} {locs : List Loc} {cells slots : Nat} {Z : State} {h : Heap} {a : Addr} {k : ClassId} {z : Int32} {vs : List Value} {dv : Value} {ty : FieldType} (X : Stand p l e R s m args below meth c T locs cells slots) (hx : p.tables.exec = Jvm.exec) (hZ : Z.Warmed39 s.vm) (eT : T.heap = h) (F : Arv Z h a k ty z vs dv) {g : JFrame} (hg : g.method = m) {rest : List Value} (hs : g.stack = .ref a :: rest) (hd : decode c.code g.pc = .ok (.arraylength, 1)) (target : State)
    (hr : Steps p.tables e below (T.setTop { g with pc := g.pc + 1, stack := .int z :: rest }) target) : Steps p.tables e below (T.setTop g) target := by
  obtain ⟨cl, A, -, S, N, -, -⟩ := F
  exact X.arraylength hx (by rw [eT]; exact A.1) (State.isArrayOf_alike hZ.alike A.2.1) hg hs hd target (by rw [len_of S N]; exact hr)
theorem own_stD {p : Program} {l : Launch} {e : Env} {R : Room} {s : State} {m : MethodId} {args : Array Value} {below : List Frame} {meth : Method} {c : Code} {T : State} {locs : List Loc} {cells slots : Nat} {Z : State} {h : Heap} {a : Addr} {k : ClassId} {z : Int32} {vs : List Value} {dv : Value} (X : Stand p l e R s m args below meth c T locs cells slots) (hx : p.tables.exec = Jvm.exec) (hZ : Z.Warmed39 s.vm) (eT : T.heap = h) (F : Arv Z h a k .double z vs dv) {j : Int32} {w : UInt64} (hb : ¬ j < 0 ∧ j < z) (i : Nat) (hj : j.toNatClampNeg = i) (hi : i < vs.length) {g : JFrame} (hg : g.method = m) {rest : List Value} (hs : g.stack = .double w :: .int j :: .ref a :: rest) (hd : decode c.code g.pc = .ok (.dastore, 1)) :
    ∃ T' h', Stand p l e R s m args below meth c T' (locs ++ [⟨a, j.toNatClampNeg⟩]) cells slots ∧ T'.heap = h' ∧ Wr h h' a j.toNatClampNeg (.double w) ∧ Arv Z h' a k .double z (vs.set i (.double w)) dv ∧ ∀ target, Steps p.tables e below (T'.setTop { g with pc := g.pc + 1, stack := rest }) target → Steps p.tables e below (T.setTop g) target := by
  obtain ⟨cl, A, q, S, N, H, G⟩ := F
  obtain ⟨T', h', X', e', W', st⟩ := stD X hx hZ eT A (inb_of S hb) hg hs hd
  exact ⟨T', h', X', e', W', Arv.set A q S N H G rfl W' i hj hi, st⟩
theorem own_cloneV {p : Program} {l : Launch} {e : Env} {R : Room} {s : State} {m : MethodId} {args : Array Value} {below : List Frame} {meth : Method} {c : Code} {T : State} {locs : List Loc} {cells slots : Nat} {Z : State} {h : Heap} {a : Addr} {ty : FieldType} (X : Stand p l e R s m args below meth c T locs cells slots) (hx : p.tables.exec = Jvm.exec) (hZ : Z.Warmed39 s.vm) {a0 : Array Value} {own ad : String} {index : Nat} (hown : s.vm.findClass own = some m.cls)
    (w1 : (Cond.methodLink own index ⟨ad, "clone", "()Ljava/lang/Object;"⟩).before a0 Z = true) (w2 : (Cond.sameMethod ad "java/lang/Object" "clone" "()Ljava/lang/Object;").before a0 Z = true) (w3 : (Cond.native ⟨"java/lang/Object", "clone", "()Ljava/lang/Object;"⟩).before a0 Z = true)
    (w4 : (Cond.instanceMethod ⟨"java/lang/Object", "clone", "()Ljava/lang/Object;"⟩).before a0 Z = true) (w5 : (Cond.selects ad ⟨ad, "clone", "()Ljava/lang/Object;"⟩ ⟨"java/lang/Object", "clone", "()Ljava/lang/Object;"⟩).before a0 Z = true) (w6 : (Cond.castable ad "java/lang/Cloneable").before a0 Z = true)
    (eT : T.heap = h) {k : ClassId} {z : Int32} {vs : List Value} {dv : Value} (F : Arv Z h a k ty z vs dv) (E : Exa Z h a ad) {g : JFrame} (hg : g.method = m) (hsize : g.locals.size = c.maxLocals) {rest : List Value} (hst : g.stack = .ref a :: rest) (hd : decode c.code g.pc = .ok (.invokevirtual index, 3))
    (hf : 1 ≤ R.frames) {W cap : Nat} (hW : 2 * g.monitorRoom + (rest.map fun v => v.category).sum ≤ W) (hl : W + 14 ≤ R.locals) (hcap : z.toNatClampNeg ≤ cap) (hc : cells + 1 ≤ R.cells) (hsl : slots + cap ≤ R.slots) :
    ∃ T' h', Stand p l e R s m args below meth c T' locs (cells + 1) (slots + cap) ∧ T'.heap = h' ∧ Ext h h' ∧ Arv Z h' h.size k ty z vs dv ∧ Exa Z h' h.size ad ∧
      ∀ target, Steps p.tables e below (T'.setTop { g with pc := g.pc + 3, stack := .ref h.size :: rest }) target → Steps p.tables e below (T.setTop g) target := by
  obtain ⟨cl, A, q1, S, q3, H, G⟩ := F
  have FC : FitC Z cl := fitC_of A fun i hi v hv => by rw [H i hi] at hv; cases hv; exact G i hi
  obtain ⟨T', h', X', e', ex, A', E', st⟩ := cloneA X hx hZ hown w1 w2 w3 w4 w5 w6 eT A E FC hg hsize hst hd hf hW hl (by rw [S]; exact hcap) hc hsl
  exact ⟨T', h', X', e', ex, ⟨cloneOf cl, A', q1, S, q3, H, G⟩, E', st⟩
theorem own_privBack {p : Program} {l : Launch} {e : Env} {R : Room} {s : State} {m : MethodId} {args : Array Value} {below : List Frame} {meth : Method} {c : Code} {T : State} {locs : List Loc} {cells slots : Nat} (X : Stand p l e R s m args below meth c T locs cells slots) (hexec : p.tables.exec = Jvm.exec) {own C : String} {index : Nat} {y z w : MethodName} {bytes : ByteArray} {maxL : Nat} {ret : Option FieldType}
    (hown : s.vm.findClass own = some m.cls) (hlink : (Cond.methodLink own index y).before args s = true) (hinst : (Cond.instanceMethod y).before args s = true) (hsel : (Cond.selects C z w).before args s = true) (hwy : w.cls = y.cls)
    (hpriv : s.PrivateAt y) (hcode : (Cond.code y bytes maxL ret).before args s = true) (hy : y.cls ≠ "java/lang/invoke/MethodHandle" ∧ y.cls ≠ "java/lang/invoke/VarHandle")
    {W : Nat} {Pre : Free.Pt → Array Value → Prop} {Post : Free.Pt → Array Value → Option Value → Free.Pt → Prop} (hK : Free.Back l R p e below s args y 3 W Pre Post)
    {g : JFrame} (hg : g.method = m) (hsize : g.locals.size = c.maxLocals) {s₀ : State} (hcome : Steps p.tables e below s₀ (T.setTop g)) {a : Addr} {cell : Cell} (hcell : T.heap[a]? = some cell) (hobj : ∀ q, cell.vm ≠ .statics q)
    {argsL rest : List Value} (hlen : ∀ sig, parseMethodDescriptor y.desc = some sig → argsL.length = sig.parameters.length)
    (hstack : g.stack = argsL.reverse ++ .ref a :: rest) (hW : 2 * g.monitorRoom + (rest.map fun v => v.category).sum ≤ W) (hdg : decode c.code g.pc = .ok (.invokevirtual index, 3))
    (hpre : ∀ vm₁, s.WarmedH vm₁ → Pre ⟨T.setVm vm₁, locs, cells, slots⟩ (.ref a :: argsL).toArray) :
    ∃ (v : Option Value) (vm₁ : Vm) (B : Free.Pt), s.WarmedH vm₁ ∧ Stand p l e R s m args below meth c B.U B.locs B.cells B.slots ∧ Post ⟨T.setVm vm₁, locs, cells, slots⟩ (.ref a :: argsL).toArray v B ∧
      Steps p.tables e below s₀ (B.U.setTop { g with pc := g.pc + 3, stack := v.toList ++ rest }) := by
  obtain ⟨mk, methM, hnamed, hmethM, hstM, habM⟩ := Cond.instanceMethod_spec hinst
  obtain ⟨methM', cM, hmethM', -, -, -, -, -, -, hsigM⟩ := Cond.code_spec hnamed hcode
  cases hmethM.symm.trans hmethM'
  obtain ⟨c2, r2, m2, -, -, q3, -, kP, hkP, hkPi⟩ := Cond.selects_spec hsel
  have e2 : m2.cls = mk.cls := by
    have f1 := findClass_of_methodNamed q3
    have f2 := findClass_of_methodNamed hnamed
    rw [hwy] at f1
    exact Option.some.inj (f1.symm.trans f2)
  rw [e2] at hkP
  have hselP : selectMethod e.platform s.vm cell.cls mk = .method mk := selectMethod_private hmethM (hpriv mk methM hnamed hmethM)
  obtain ⟨vm₁, X₁, hstep₁⟩ := X.invokevirtual hexec hown hlink hnamed hmethM hstM hkP hkPi hy (a := a) (cell := cell) hcell hobj hselP hmethM habM hkP hkPi (g := g) hg (argsL := argsL) (rest := rest) (hlen _ hsigM) hstack hdg
  have hW₁ : s.WarmedH vm₁ := X₁.warmed
  obtain ⟨v, B, X', hpost, hsteps⟩ := hK m meth c ⟨T.setVm vm₁, locs, cells, slots⟩ { g with stack := rest } (.invokevirtual index) mk (.ref a :: argsL).toArray X₁ hg hsize hdg hW (X₁.named hnamed) (hpre vm₁ hW₁)
  exact ⟨v, vm₁, B, hW₁, X', hpost, (hcome.trans (hstep₁ _ fun acts => by rw [doInvoke_state]; exact Steps.refl _)).trans hsteps⟩
theorem own_nd {L : List Addr} (h : L.Nodup) {i j : Nat} {a b : Addr} (hi : L[i]? = some a) (hj : L[j]? = some b) (q : i ≠ j) : a ≠ b := fun e => by
  subst e
  obtain ⟨h1, e1⟩ := List.getElem?_eq_some_iff.mp hi
  exact q ((List.getElem?_inj h1 h).mp (hi.trans hj.symm))
theorem own_ndS {a : Addr} {L : List Addr} (q : a ∉ L) (h : L.Nodup) : (a :: L).Nodup := List.nodup_cons.mpr ⟨q, h⟩
theorem own_stak {Z : State} {h h' : Heap} {C n d : String} {v : Value} {b : Addr} {k : ClassId} {ty : FieldType} {z : Int32} {vs : List Value} {dv : Value} (F : Sta Z h C n d v) (K : Keep h h' [b]) (A : Arv Z h b k ty z vs dv) : Sta Z h' C n d v := by
  obtain ⟨cf, i, kk, f, st, cell, h1, h2, h3, h4, h5, h6, h7⟩ := F
  obtain ⟨cl, A, -⟩ := A
  refine ⟨cf, i, kk, f, st, cell, h1, h2, h3, h4, K.2.1 st cell h5 (fun q => ?_), h6, h7⟩
  cases List.mem_singleton.mp q
  cases A.1.symm.trans h5
  have t := A.2.1.1
  cases hv : cell.vm <;> first | exact t _ hv | (rw [hv] at h6; cases h6)
theorem own_same {args : Array Value} {s : State} {C : String} {y z w : MethodName} (hinst : (Cond.instanceMethod y).before args s = true) (hsel : (Cond.selects C z w).before args s = true) (hwy : w.cls = y.cls) (hy : y.cls ≠ "java/lang/invoke/MethodHandle" ∧ y.cls ≠ "java/lang/invoke/VarHandle") : (Cond.sameMethod y.cls y.cls y.name y.desc).before args s = true := by
  obtain ⟨mk, methM, hnamed, hmethM, hstM, habM⟩ := Cond.instanceMethod_spec hinst
  obtain ⟨c2, r2, m2, -, -, q3, -, kP, hkP, hkPi⟩ := Cond.selects_spec hsel
  have f2 := findClass_of_methodNamed hnamed
  have e2 : m2.cls = mk.cls := by
    have f1 := findClass_of_methodNamed q3
    rw [hwy] at f1
    exact Option.some.inj (f1.symm.trans f2)
  rw [e2] at hkP
  have hf := State.methodFound?_of_named hnamed hy
  simp [Cond.before, Cond.holds, Cond.value, f2, hf, hnamed, hkP, hkPi]
theorem own_nf {args : Array Value} {s : State} {C : String} {y z w : MethodName} (hsel : (Cond.selects C z w).before args s = true) (hwy : w.cls = y.cls) : NotFace s y := fun r0 h0 => by
  obtain ⟨c2, r2, m2, -, -, q3, -, kP, hkP, hkPi⟩ := Cond.selects_spec hsel
  have f1 := findClass_of_methodNamed q3
  have f2 := findClass_of_methodNamed h0
  rw [hwy] at f1
  have e := Option.some.inj (f1.symm.trans f2)
  rw [e] at hkP
  exact ⟨kP, hkP, hkPi⟩
theorem own_backCH {p : Program} {l : Launch} {e : Env} {R : Room} {s : State} {args : Array Value} {below : List Frame} {Z : State} {a0 : Array Value} {EL : List (String × Nat)} {h : Heap} {vm0 : Vm} {y : MethodName} {bytes : ByteArray} {maxL : Nat} {ret : Option FieldType} {rm : Room} {len W : Nat} {as' : Array Value} {Q : Option Value → Heap → List Loc → Prop}
    (hM : MetFree l y (head1 [Cond.code y bytes maxL ret] rm) (fun a U => a = as' ∧ Z.Warmed39 U.vm ∧ U.heap = h ∧ CHv Z EL U.vm h) (fun _ _ _ _ _ => True) (fun _ U o U' => ∃ v L, o = .returned v ∧ Q v U'.heap L ∧ ReturnedEndW U o U' L rm.cells rm.slots))
    (hZ : Z.Warmed39 vm0) (wc : (Cond.code y bytes maxL ret).before a0 Z = true) (wz : (Cond.initialized y.cls).before a0 Z = true) (hf : rm.frames + 1 ≤ R.frames) (hl : W + (maxL + 11) + rm.locals ≤ R.locals) (hEL : EW Z a0 EL) (H : CHv Z EL vm0 h) :
    BackS l R p e below (s.setVm vm0) args y len W (fun A a => a = as' ∧ A.U.heap = h ∧ A.cells + rm.cells ≤ R.cells ∧ A.slots + rm.slots ≤ R.slots)
      (fun A _ v B => ∃ L, Q v B.U.heap L ∧ B.locs = A.locs ++ L ∧ B.cells = A.cells + rm.cells ∧ B.slots = A.slots + rm.slots) :=
  BackS.of_freeW (bytes := bytes) (maxL := maxL) (ret := ret) (E := fun _ first o t L k n => k = rm.cells ∧ n = rm.slots ∧ (∃ v, o = .returned v ∧ Q v t.heap L)) hM hf hl
    (fun m meth c A a Y hp => have hU : Z.Warmed39 A.U.vm := wtrans (s := s.setVm vm0) hZ Y.warmed
      ⟨by show (Cond.and _ .tt).before a A.U = true; rw [Cond.before_and, mv hU wc]; rfl, mv hU wc, mv hU wz, hp.2.2.1, hp.2.2.2⟩)
    (fun m meth c A a g mk Y hp => ⟨hp.1, wtrans (s := s.setVm vm0) hZ Y.warmed, hp.2.1, (CHv.at Y hZ hEL H).1⟩) (fun _ _ _ _ _ _ _ _ _ => trivial)
    (fun _ _ _ _ ⟨v, L, h1, h2, h4⟩ => ⟨L, _, _, h4, rfl, rfl, ⟨v, h1, h2⟩⟩)
    (fun m meth c A a g mk v t L k n Y hp _ _ ⟨e1, e2, ⟨v', e3, e4⟩⟩ => by
      cases e3; subst e1 e2
      exact ⟨L, e4, rfl, rfl, rfl⟩)
abbrev oF_coder (m : MethodId) (pc : Nat) (a0 : Slot) (S : List Value) : JFrame := mkF m pc #[a0] S
theorem o152_0 : decode jdk_42_method_152_code 0 = .ok (.getstatic 38, 3) := by decide +kernel
theorem o152_3 : decode jdk_42_method_152_code 3 = .ok (.ifCond .eq 10, 3) := by decide +kernel
theorem o152_6 : decode jdk_42_method_152_code 6 = .ok (.aload_n 0, 1) := by decide +kernel
theorem o152_7 : decode jdk_42_method_152_code 7 = .ok (.getfield 15, 3) := by decide +kernel
theorem o152_10 : decode jdk_42_method_152_code 10 = .ok (.goto 4, 3) := by decide +kernel
theorem o152_14 : decode jdk_42_method_152_code 14 = .ok (.ireturn, 1) := by decide +kernel
theorem own_ef_coder (m : MethodId) (x0 : Addr) : entryFrame m #[(.ref x0)] 1 = mkF m 0 #[(oR x0)] [] := by first | (simp [entryFrame, mkF, argsToLocals, Value.category]; done) | rfl
def own_Q_coder (Z : State) (ps : Addr) (cz : Int32) (h0 : Heap) (n0 : Nat) (v : Option Value) (h : Heap) (L : List Loc) : Prop := v = some (.int 0) ∧ Fr n0 L ∧ h = h0
theorem own_pn_java_lang_String : plainName "java/lang/String" = true := by first | (simp [plainName, overriddenIn]; done) | decide +kernel
set_option maxRecDepth 65536 in
set_option maxHeartbeats 40000000 in
theorem own_rm_coder (l : Launch) (Z : State) (a0 : Array Value) (hw : ∀ d ∈ tables_1, d.before a0 Z = true) (ws : List Jvm.Cond) (ps : Addr) (cz : Int32) (h0 : Heap) (n0 : Nat) (Z0 : n0 ≤ h0.size) (Sc0 : Sta Z h0 "java/lang/String" "COMPACT_STRINGS" "Z" (.int cz)) (hcz : ¬ cz = (0 : Int32)) (Fc0 : Fld Z h0 ps "java/lang/String" "coder" "B" (.int 0)) :
    MetFree l (⟨"java/lang/String", "coder", "()B"⟩ : MethodName) (head1 (Jvm.Cond.code (⟨"java/lang/String", "coder", "()B"⟩ : MethodName) jdk_42_method_152_code 1 (some .byte) :: ws) ({ frames := 0, cells := 0, slots := 0, locals := 0 } : Room)) (fun a U => a = #[(.ref ps)] ∧ Z.Warmed39 U.vm ∧ U.heap = h0) (fun _ _ _ _ _ => True) (fun _ U o U' => ∃ v L, o = .returned v ∧ own_Q_coder Z ps cz h0 n0 v U'.heap L ∧ FrameEnd U o U' L ({ frames := 0, cells := 0, slots := 0, locals := 0 } : Room).cells ({ frames := 0, cells := 0, slots := 0, locals := 0 } : Room).slots) := by
  refine MetFree.of_bodySF (plainFor_of_name own_pn_java_lang_String) hisR ?_
  intro p e s m args below meth c s₁ Bd hml0 hP hKq_
  obtain ⟨rfl, hZ, hh⟩ := hP
  have hx := Bd.exec
  have hby := Bd.bytes
  have hml : c.maxLocals = 1 := hml0
  have hown : s.vm.findClass "java/lang/String" = some m.cls := findClass_of_methodNamed Bd.named
  have hnm := (name_of_methodNamed Bd.named Bd.method).1
  have ow22 := hw _ (List.mem_of_getElem? (i := 22) rfl)
  have ow23 := hw _ (List.mem_of_getElem? (i := 23) rfl)
  have X0 : Stand p l e ({ frames := 0, cells := 0, slots := 0, locals := 0 } : Room) s m #[(.ref ps)] below meth c s₁ [] 0 0 := Stand.of_body Bd
  have e0 : s₁.heap = h0 := by rw [← hh, Bd.state]; rfl
  have N0 := Fr.nil n0
  have pre0 : ∀ t, Steps p.tables e below (s₁.setTop (mkF m 0 #[(oR ps)] [])) t → Steps p.tables e below (s₁.setTop (entryFrame m #[(.ref ps)] 1)) t := fun t k => castTop (own_ef_coder m ps) k
  refine own_go pre0 ?_
  refine own_abs ?_
  intro Pf hPf
  obtain ⟨T1, X1, e1, st1⟩ := getS2 X0 hx hZ hown (host := "") (Or.inl ow22) Via.refl e0 Sc0 (g := (oF_coder m 0 (oR ps) [])) rfl (hb hby o152_0)
  refine own_go st1 ?_
  refine own_go (A := oW p e below T1 (oF_coder m 7 (oR ps) [(.ref ps)])) (fun t k => by
    refine XS.ifNo X1.here hx rfl (hb hby o152_3) rfl ((if0 _ _).trans (feq hcz).1) ?_
    show oW p e below T1 (oF_coder m 6 (oR ps) []) _
    refine XS.aloadN X1.here hx rfl (hb hby o152_6) rfl rfl ?_
    exact k) ?_
  obtain ⟨T2, X2, e2, st2⟩ := getF X1 hx hZ hown (host := "") (Or.inl ow23) Via.refl e1 Fc0 (g := (oF_coder m 7 (oR ps) [(.ref ps)])) rfl rfl (hb hby o152_7)
  refine own_go st2 ?_
  refine own_go (A := oW p e below T2 (oF_coder m 14 (oR ps) [(.int 0)])) (fun t k => by
    refine XS.goto X2.here hx rfl (pc0 := 10) (pc' := 14) rfl (hb hby o152_10) (by decide) (by decide) ?_
    exact k) ?_
  obtain ⟨fs, hr, hrun, hended, hW, hsame⟩ := X2.leave (v := some (.int (nar .byte (0 : Int32)))) (fun h => by rw [Bd.returns] at h; cases h)
  refine ⟨_, _, retN X2 hx (t := .byte) Bd.returns (by simp) (hb hby o152_14) hr, hPf _ _ ⟨hrun, hended, _, _, rfl, ?_, ⟨_, rfl⟩, hW, hsame.mono (by decide) (by decide)⟩⟩
  show own_Q_coder Z ps cz h0 n0 _ T2.heap _
  rw [e2]
  exact ⟨rfl, N0, rfl⟩
abbrev oF_isLatin1 (m : MethodId) (pc : Nat) (a0 : Slot) (S : List Value) : JFrame := mkF m pc #[a0] S
theorem o154_0 : decode jdk_42_method_154_code 0 = .ok (.getstatic 38, 3) := by decide +kernel
theorem o154_3 : decode jdk_42_method_154_code 3 = .ok (.ifCond .eq 14, 3) := by decide +kernel
theorem o154_6 : decode jdk_42_method_154_code 6 = .ok (.aload_n 0, 1) := by decide +kernel
theorem o154_7 : decode jdk_42_method_154_code 7 = .ok (.getfield 15, 3) := by decide +kernel
theorem o154_10 : decode jdk_42_method_154_code 10 = .ok (.ifCond .ne 7, 3) := by decide +kernel
theorem o154_13 : decode jdk_42_method_154_code 13 = .ok (.iconst 1, 1) := by decide +kernel
theorem o154_14 : decode jdk_42_method_154_code 14 = .ok (.goto 4, 3) := by decide +kernel
theorem o154_18 : decode jdk_42_method_154_code 18 = .ok (.ireturn, 1) := by decide +kernel
theorem own_ef_isLatin1 (m : MethodId) (x0 : Addr) : entryFrame m #[(.ref x0)] 1 = mkF m 0 #[(oR x0)] [] := by first | (simp [entryFrame, mkF, argsToLocals, Value.category]; done) | rfl
def own_Q_isLatin1 (Z : State) (ps : Addr) (cz : Int32) (h0 : Heap) (n0 : Nat) (v : Option Value) (h : Heap) (L : List Loc) : Prop := v = some (.int 1) ∧ Fr n0 L ∧ h = h0
set_option maxRecDepth 65536 in
set_option maxHeartbeats 40000000 in
theorem own_rm_isLatin1 (l : Launch) (Z : State) (a0 : Array Value) (hw : ∀ d ∈ tables_1, d.before a0 Z = true) (ws : List Jvm.Cond) (ps : Addr) (cz : Int32) (h0 : Heap) (n0 : Nat) (Z0 : n0 ≤ h0.size) (Sc0 : Sta Z h0 "java/lang/String" "COMPACT_STRINGS" "Z" (.int cz)) (hcz : ¬ cz = (0 : Int32)) (Fc0 : Fld Z h0 ps "java/lang/String" "coder" "B" (.int 0)) :
    MetFree l (⟨"java/lang/String", "isLatin1", "()Z"⟩ : MethodName) (head1 (Jvm.Cond.code (⟨"java/lang/String", "isLatin1", "()Z"⟩ : MethodName) jdk_42_method_154_code 1 (some .boolean) :: ws) ({ frames := 0, cells := 0, slots := 0, locals := 0 } : Room)) (fun a U => a = #[(.ref ps)] ∧ Z.Warmed39 U.vm ∧ U.heap = h0) (fun _ _ _ _ _ => True) (fun _ U o U' => ∃ v L, o = .returned v ∧ own_Q_isLatin1 Z ps cz h0 n0 v U'.heap L ∧ FrameEnd U o U' L ({ frames := 0, cells := 0, slots := 0, locals := 0 } : Room).cells ({ frames := 0, cells := 0, slots := 0, locals := 0 } : Room).slots) := by
  refine MetFree.of_bodySF (plainFor_of_name own_pn_java_lang_String) hisR ?_
  intro p e s m args below meth c s₁ Bd hml0 hP hKq_
  obtain ⟨rfl, hZ, hh⟩ := hP
  have hx := Bd.exec
  have hby := Bd.bytes
  have hml : c.maxLocals = 1 := hml0
  have hown : s.vm.findClass "java/lang/String" = some m.cls := findClass_of_methodNamed Bd.named
  have hnm := (name_of_methodNamed Bd.named Bd.method).1
  have ow22 := hw _ (List.mem_of_getElem? (i := 22) rfl)
  have ow23 := hw _ (List.mem_of_getElem? (i := 23) rfl)
  have X0 : Stand p l e ({ frames := 0, cells := 0, slots := 0, locals := 0 } : Room) s m #[(.ref ps)] below meth c s₁ [] 0 0 := Stand.of_body Bd
  have e0 : s₁.heap = h0 := by rw [← hh, Bd.state]; rfl
  have N0 := Fr.nil n0
  have pre0 : ∀ t, Steps p.tables e below (s₁.setTop (mkF m 0 #[(oR ps)] [])) t → Steps p.tables e below (s₁.setTop (entryFrame m #[(.ref ps)] 1)) t := fun t k => castTop (own_ef_isLatin1 m ps) k
  refine own_go pre0 ?_
  refine own_abs ?_
  intro Pf hPf
  obtain ⟨T1, X1, e1, st1⟩ := getS2 X0 hx hZ hown (host := "") (Or.inl ow22) Via.refl e0 Sc0 (g := (oF_isLatin1 m 0 (oR ps) [])) rfl (hb hby o154_0)
  refine own_go st1 ?_
  refine own_go (A := oW p e below T1 (oF_isLatin1 m 7 (oR ps) [(.ref ps)])) (fun t k => by
    refine XS.ifNo X1.here hx rfl (hb hby o154_3) rfl ((if0 _ _).trans (feq hcz).1) ?_
    show oW p e below T1 (oF_isLatin1 m 6 (oR ps) []) _
    refine XS.aloadN X1.here hx rfl (hb hby o154_6) rfl rfl ?_
    exact k) ?_
  obtain ⟨T2, X2, e2, st2⟩ := getF X1 hx hZ hown (host := "") (Or.inl ow23) Via.refl e1 Fc0 (g := (oF_isLatin1 m 7 (oR ps) [(.ref ps)])) rfl rfl (hb hby o154_7)
  refine own_go st2 ?_
  refine own_go (A := oW p e below T2 (oF_isLatin1 m 18 (oR ps) [(.int 1)])) (fun t k => by
    refine XS.ifNo X2.here hx rfl (hb hby o154_10) rfl ((if0 _ _).trans (teq (by decide : (0 : Int32) = (0 : Int32))).2) ?_
    show oW p e below T2 (oF_isLatin1 m 13 (oR ps) []) _
    refine XS.iconst X2.here hx rfl (hb hby o154_13) ?_
    show oW p e below T2 (oF_isLatin1 m 14 (oR ps) [(.int 1)]) _
    refine XS.goto X2.here hx rfl (pc0 := 14) (pc' := 18) rfl (hb hby o154_14) (by decide) (by decide) ?_
    exact k) ?_
  obtain ⟨fs, hr, hrun, hended, hW, hsame⟩ := X2.leave (v := some (.int (nar .boolean (1 : Int32)))) (fun h => by rw [Bd.returns] at h; cases h)
  refine ⟨_, _, retN X2 hx (t := .boolean) Bd.returns (by simp) (hb hby o154_18) hr, hPf _ _ ⟨hrun, hended, _, _, rfl, ?_, ⟨_, rfl⟩, hW, hsame.mono (by decide) (by decide)⟩⟩
  show own_Q_isLatin1 Z ps cz h0 n0 _ T2.heap _
  rw [e2]
  exact ⟨rfl, N0, rfl⟩
abbrev oF_chk (m : MethodId) (pc : Nat) (a0 a1 a2 : Slot) (S : List Value) : JFrame := mkF m pc #[a0, a1, a2] S
theorem o111_0 : decode jdk_41_method_11_code 0 = .ok (.iload_n 0, 1) := by decide +kernel
theorem o111_1 : decode jdk_41_method_11_code 1 = .ok (.ifCond .lt 8, 3) := by decide +kernel
theorem o111_4 : decode jdk_41_method_11_code 4 = .ok (.iload_n 0, 1) := by decide +kernel
theorem o111_5 : decode jdk_41_method_11_code 5 = .ok (.iload_n 1, 1) := by decide +kernel
theorem o111_6 : decode jdk_41_method_11_code 6 = .ok (.if_icmp .lt 10, 3) := by decide +kernel
theorem o111_16 : decode jdk_41_method_11_code 16 = .ok (.iload_n 0, 1) := by decide +kernel
theorem o111_17 : decode jdk_41_method_11_code 17 = .ok (.ireturn, 1) := by decide +kernel
theorem own_ef_chk (m : MethodId) (x0 : Int32) (x1 : Int32) (x2 : Value) (hr_x2 : x2.isRef = true) : entryFrame m #[(.int x0), (.int x1), x2] 3 = mkF m 0 #[(oi x0), (oi x1), (.val x2)] [] := by first | (simp [entryFrame, mkF, argsToLocals, Value.category]; done) | rfl | (rcases ref_cases hr_x2 with rfl | ⟨_, rfl⟩ <;> first | rfl | simp [entryFrame, mkF, argsToLocals, Value.category])
def own_Q_chk (Z : State) (pi : Int32) (pn : Int32) (fm : Value)  (h0 : Heap) (n0 : Nat) (v : Option Value) (h : Heap) (L : List Loc) : Prop := v = some (.int pi) ∧ Fr n0 L ∧ h = h0
theorem own_pn_jdk_internal_util_Preconditions : plainName "jdk/internal/util/Preconditions" = true := by first | (simp [plainName, overriddenIn]; done) | decide +kernel
set_option maxRecDepth 65536 in
set_option maxHeartbeats 40000000 in
theorem own_rm_chk (l : Launch) (Z : State) (a0 : Array Value) (hw : ∀ d ∈ tables_1, d.before a0 Z = true) (ws : List Jvm.Cond) (pi : Int32) (pn : Int32) (fm : Value)  (h0 : Heap) (n0 : Nat) (Z0 : n0 ≤ h0.size) (hfm : fm.isRef = true) (hin : ¬ pi < (0 : Int32) ∧ pi < pn) :
    MetFree l (⟨"jdk/internal/util/Preconditions", "checkIndex", "(IILjava/util/function/BiFunction;)I"⟩ : MethodName) (head1 (Jvm.Cond.code (⟨"jdk/internal/util/Preconditions", "checkIndex", "(IILjava/util/function/BiFunction;)I"⟩ : MethodName) jdk_41_method_11_code 3 (some .int) :: ws) ({ frames := 0, cells := 0, slots := 0, locals := 0 } : Room)) (fun a U => a = #[(.int pi), (.int pn), fm] ∧ Z.Warmed39 U.vm ∧ U.heap = h0) (fun _ _ _ _ _ => True) (fun _ U o U' => ∃ v L, o = .returned v ∧ own_Q_chk Z pi pn fm h0 n0 v U'.heap L ∧ FrameEnd U o U' L ({ frames := 0, cells := 0, slots := 0, locals := 0 } : Room).cells ({ frames := 0, cells := 0, slots := 0, locals := 0 } : Room).slots) := by
  refine MetFree.of_bodySF (plainFor_of_name own_pn_jdk_internal_util_Preconditions) hisR ?_
  intro p e s m args below meth c s₁ Bd hml0 hP hKq_
  obtain ⟨rfl, hZ, hh⟩ := hP
  have hx := Bd.exec
  have hby := Bd.bytes
  have hml : c.maxLocals = 3 := hml0
  have hown : s.vm.findClass "jdk/internal/util/Preconditions" = some m.cls := findClass_of_methodNamed Bd.named
  have hnm := (name_of_methodNamed Bd.named Bd.method).1
  have X0 : Stand p l e ({ frames := 0, cells := 0, slots := 0, locals := 0 } : Room) s m #[(.int pi), (.int pn), fm] below meth c s₁ [] 0 0 := Stand.of_body Bd
  have e0 : s₁.heap = h0 := by rw [← hh, Bd.state]; rfl
  have N0 := Fr.nil n0
  have pre0 : ∀ t, Steps p.tables e below (s₁.setTop (mkF m 0 #[(oi pi), (oi pn), (.val fm)] [])) t → Steps p.tables e below (s₁.setTop (entryFrame m #[(.int pi), (.int pn), fm] 3)) t := fun t k => castTop (own_ef_chk m pi pn fm hfm) k
  refine own_go pre0 ?_
  refine own_abs ?_
  intro Pf hPf
  refine own_go (A := oW p e below s₁ (oF_chk m 17 (oi pi) (oi pn) (.val fm) [(.int pi)])) (fun t k => by
    refine XS.iloadN X0.here hx rfl (hb hby o111_0) rfl ?_
    show oW p e below s₁ (oF_chk m 1 (oi pi) (oi pn) (.val fm) [(.int pi)]) _
    refine XS.ifNo X0.here hx rfl (hb hby o111_1) rfl ((if0 _ _).trans (flt hin.1).1) ?_
    show oW p e below s₁ (oF_chk m 4 (oi pi) (oi pn) (.val fm) []) _
    refine XS.iloadN X0.here hx rfl (hb hby o111_4) rfl ?_
    show oW p e below s₁ (oF_chk m 5 (oi pi) (oi pn) (.val fm) [(.int pi)]) _
    refine XS.iloadN X0.here hx rfl (hb hby o111_5) rfl ?_
    show oW p e below s₁ (oF_chk m 6 (oi pi) (oi pn) (.val fm) [(.int pn), (.int pi)]) _
    refine XS.icmpYes X0.here hx rfl (pc0 := 6) (pc' := 16) rfl (hb hby o111_6) rfl (tlt hin.2).1 (by decide) (by decide) ?_
    show oW p e below s₁ (oF_chk m 16 (oi pi) (oi pn) (.val fm) []) _
    refine XS.iloadN X0.here hx rfl (hb hby o111_16) rfl ?_
    exact k) ?_
  obtain ⟨fs, hr, hrun, hended, hW, hsame⟩ := X0.leave (v := some (.int pi)) (fun h => by rw [Bd.returns] at h; cases h)
  refine ⟨_, _, retOut X0 hx Bd.returns rfl (Or.inl ⟨rfl, Or.inl rfl, _, rfl⟩) (hb hby o111_17) hr, hPf _ _ ⟨hrun, hended, _, _, rfl, ?_, ⟨_, rfl⟩, hW, hsame.mono (by decide) (by decide)⟩⟩
  show own_Q_chk Z pi pn fm h0 n0 _ s₁.heap _
  rw [e0]
  exact ⟨rfl, N0, rfl⟩
abbrev oF_chkS (m : MethodId) (pc : Nat) (a0 a1 : Slot) (S : List Value) : JFrame := mkF m pc #[a0, a1] S
theorem o155_0 : decode jdk_42_method_155_code 0 = .ok (.iload_n 0, 1) := by decide +kernel
theorem o155_1 : decode jdk_42_method_155_code 1 = .ok (.iload_n 1, 1) := by decide +kernel
theorem o155_2 : decode jdk_42_method_155_code 2 = .ok (.getstatic 1053, 3) := by decide +kernel
theorem o155_5 : decode jdk_42_method_155_code 5 = .ok (.invokestatic 1059, 3) := by decide +kernel
theorem own_pd_28IILjava2futil2ffunction2fBiFunction3b29I : parseMethodDescriptor "(IILjava/util/function/BiFunction;)I" = some ⟨[.int, .int, (.object "java/util/function/BiFunction")], some .int⟩ := by decide +kernel
theorem o155_8 : decode jdk_42_method_155_code 8 = .ok (.pop, 1) := by decide +kernel
theorem o155_9 : decode jdk_42_method_155_code 9 = .ok (.return_, 1) := by decide +kernel
theorem own_ef_chkS (m : MethodId) (x0 : Int32) (x1 : Int32) : entryFrame m #[(.int x0), (.int x1)] 2 = mkF m 0 #[(oi x0), (oi x1)] [] := by first | (simp [entryFrame, mkF, argsToLocals, Value.category]; done) | rfl
def own_Q_chkS (Z : State) (pi : Int32) (pn : Int32) (fm : Value) (h0 : Heap) (n0 : Nat) (v : Option Value) (h : Heap) (L : List Loc) : Prop := v = none ∧ Fr n0 L ∧ h = h0
set_option maxRecDepth 65536 in
set_option maxHeartbeats 40000000 in
theorem own_rm_chkS (l : Launch) (Z : State) (a0 : Array Value) (hw : ∀ d ∈ tables_1, d.before a0 Z = true) (ws : List Jvm.Cond) (pi : Int32) (pn : Int32) (fm : Value) (h0 : Heap) (n0 : Nat) (Z0 : n0 ≤ h0.size) (Sf0 : Sta Z h0 "jdk/internal/util/Preconditions" "SIOOBE_FORMATTER" "Ljava/util/function/BiFunction;" fm) (hfm : fm.isRef = true) (hin : ¬ pi < (0 : Int32) ∧ pi < pn) :
    MetFree l (⟨"java/lang/String", "checkIndex", "(II)V"⟩ : MethodName) (head1 (Jvm.Cond.code (⟨"java/lang/String", "checkIndex", "(II)V"⟩ : MethodName) jdk_42_method_155_code 2 none :: ws) ({ frames := 1, cells := 0, slots := 0, locals := 14 } : Room)) (fun a U => a = #[(.int pi), (.int pn)] ∧ Z.Warmed39 U.vm ∧ U.heap = h0) (fun _ _ _ _ _ => True) (fun _ U o U' => ∃ v L, o = .returned v ∧ own_Q_chkS Z pi pn fm h0 n0 v U'.heap L ∧ FrameEnd U o U' L ({ frames := 1, cells := 0, slots := 0, locals := 14 } : Room).cells ({ frames := 1, cells := 0, slots := 0, locals := 14 } : Room).slots) := by
  refine MetFree.of_bodySF (plainFor_of_name own_pn_java_lang_String) hisR ?_
  intro p e s m args below meth c s₁ Bd hml0 hP hKq_
  obtain ⟨rfl, hZ, hh⟩ := hP
  have hx := Bd.exec
  have hby := Bd.bytes
  have hml : c.maxLocals = 2 := hml0
  have hown : s.vm.findClass "java/lang/String" = some m.cls := findClass_of_methodNamed Bd.named
  have hnm := (name_of_methodNamed Bd.named Bd.method).1
  have ow42 := hw _ (List.mem_of_getElem? (i := 42) rfl)
  have ow43 := hw _ (List.mem_of_getElem? (i := 43) rfl)
  have ow44 := hw _ (List.mem_of_getElem? (i := 44) rfl)
  have ow45 := hw _ (List.mem_of_getElem? (i := 45) rfl)
  have ow46 := hw _ (List.mem_of_getElem? (i := 46) rfl)
  have X0 : Stand p l e ({ frames := 1, cells := 0, slots := 0, locals := 14 } : Room) s m #[(.int pi), (.int pn)] below meth c s₁ [] 0 0 := Stand.of_body Bd
  have e0 : s₁.heap = h0 := by rw [← hh, Bd.state]; rfl
  have N0 := Fr.nil n0
  have pre0 : ∀ t, Steps p.tables e below (s₁.setTop (mkF m 0 #[(oi pi), (oi pn)] [])) t → Steps p.tables e below (s₁.setTop (entryFrame m #[(.int pi), (.int pn)] 2)) t := fun t k => castTop (own_ef_chkS m pi pn) k
  refine own_go pre0 ?_
  refine own_abs ?_
  intro Pf hPf
  refine own_go (A := oW p e below s₁ (oF_chkS m 2 (oi pi) (oi pn) [(.int pn), (.int pi)])) (fun t k => by
    refine XS.iloadN X0.here hx rfl (hb hby o155_0) rfl ?_
    show oW p e below s₁ (oF_chkS m 1 (oi pi) (oi pn) [(.int pi)]) _
    refine XS.iloadN X0.here hx rfl (hb hby o155_1) rfl ?_
    exact k) ?_
  obtain ⟨T1, X1, e1, st1⟩ := getS2 X0 hx hZ hown (host := "") (Or.inl ow42) Via.refl e0 Sf0 (g := (oF_chkS m 2 (oi pi) (oi pn) [(.int pn), (.int pi)])) rfl (hb hby o155_2)
  refine own_go st1 ?_
  obtain ⟨_, _, ⟨T2, L2, k2, n2⟩, -, X2, ⟨Lc2, hQ2, l2, y2, z2⟩, st2⟩ := Jvm.LawKit.callS X1 hx (y := (⟨"jdk/internal/util/Preconditions", "checkIndex", "(IILjava/util/function/BiFunction;)I"⟩ : MethodName)) hown (mvT hZ ow44) (mvT hZ ow45) (mvT hZ ow43) (mvT hZ ow46) (by decide) (backOf (W := 0) (own_rm_chk l Z a0 hw [] pi pn fm h0 n0 Z0 hfm hin) hZ ow46 ow43 (by decide) (by decide)) (g := (oF_chkS m 5 (oi pi) (oi pn) [fm, (.int pn), (.int pi)])) rfl (by rw [hml]; rfl) (argsL := [(.int pi), (.int pn), fm]) (rest := []) (lenOf own_pd_28IILjava2futil2ffunction2fBiFunction3b29I rfl) rfl (by show 2 * 0 + _ ≤ _; exact Nat.le_of_eq rfl) (hb hby o155_5) (fun _ _ => ⟨rfl, e1, (by decide : 0 + 0 ≤ _), (by decide : 0 + 0 ≤ _)⟩)
  dsimp only [Pt.U, Pt.locs, Pt.cells, Pt.slots] at X2 l2 y2 z2 st2 hQ2
  subst l2 y2 z2
  obtain ⟨rfl, N2q, eh2⟩ := hQ2
  have N2 := Fr.app N0 N2q
  refine own_go st2 ?_
  refine own_go (A := oW p e below T2 (oF_chkS m 9 (oi pi) (oi pn) [])) (fun t k => by
    refine XS.pop X2.here hx rfl (hb hby o155_8) rfl rfl ?_
    exact k) ?_
  obtain ⟨fs, hr, hrun, hended, hW, hsame⟩ := X2.leave (v := none) (fun _ => rfl)
  refine ⟨_, _, X2.returnOut hx Bd.returns (hb hby o155_9) hr, hPf _ _ ⟨hrun, hended, _, _, rfl, ?_, ⟨_, rfl⟩, hW, hsame.mono (by decide) (by decide)⟩⟩
  show own_Q_chkS Z pi pn fm h0 n0 _ T2.heap _
  rw [eh2]
  exact ⟨rfl, N2, rfl⟩
def own_ch (w : Int32) : Int32 := nar .char ((w &&& (255 : Int32)).toUInt32.toUInt16.toUInt32.toInt32)
abbrev oF_chL (m : MethodId) (pc : Nat) (a0 a1 : Slot) (S : List Value) : JFrame := mkF m pc #[a0, a1] S
theorem o432_0 : decode jdk_43_method_2_code 0 = .ok (.iload_n 1, 1) := by decide +kernel
theorem o432_1 : decode jdk_43_method_2_code 1 = .ok (.aload_n 0, 1) := by decide +kernel
theorem o432_2 : decode jdk_43_method_2_code 2 = .ok (.arraylength, 1) := by decide +kernel
theorem o432_3 : decode jdk_43_method_2_code 3 = .ok (.invokestatic 9, 3) := by decide +kernel
theorem own_pd_28II29V : parseMethodDescriptor "(II)V" = some ⟨[.int, .int], none⟩ := by decide +kernel
theorem o432_6 : decode jdk_43_method_2_code 6 = .ok (.aload_n 0, 1) := by decide +kernel
theorem o432_7 : decode jdk_43_method_2_code 7 = .ok (.iload_n 1, 1) := by decide +kernel
theorem o432_8 : decode jdk_43_method_2_code 8 = .ok (.baload, 1) := by decide +kernel
theorem o432_9 : decode jdk_43_method_2_code 9 = .ok (.sipush 255, 3) := by decide +kernel
theorem o432_12 : decode jdk_43_method_2_code 12 = .ok (.iand, 1) := by decide +kernel
theorem o432_13 : decode jdk_43_method_2_code 13 = .ok (.i2c, 1) := by decide +kernel
theorem o432_14 : decode jdk_43_method_2_code 14 = .ok (.ireturn, 1) := by decide +kernel
theorem own_ef_chL (m : MethodId) (x0 : Addr) (x1 : Int32) : entryFrame m #[(.ref x0), (.int x1)] 2 = mkF m 0 #[(oR x0), (oi x1)] [] := by first | (simp [entryFrame, mkF, argsToLocals, Value.category]; done) | rfl
def own_Q_chL (Z : State) (pb : Addr) (pi : Int32) (fm : Value) (cl : Cell) (zl : Int32) (h0 : Heap) (n0 : Nat) (v : Option Value) (h : Heap) (L : List Loc) : Prop := v = some (.int (own_ch (atv cl pi))) ∧ Fr n0 L ∧ h = h0
theorem own_pn_java_lang_StringLatin1 : plainName "java/lang/StringLatin1" = true := by first | (simp [plainName, overriddenIn]; done) | decide +kernel
set_option maxRecDepth 65536 in
set_option maxHeartbeats 40000000 in
theorem own_rm_chL (l : Launch) (Z : State) (a0 : Array Value) (hw : ∀ d ∈ tables_1, d.before a0 Z = true) (ws : List Jvm.Cond) (pb : Addr) (pi : Int32) (fm : Value) (cl : Cell) (zl : Int32) (h0 : Heap) (n0 : Nat) (Z0 : n0 ≤ h0.size) (Sf0 : Sta Z h0 "jdk/internal/util/Preconditions" "SIOOBE_FORMATTER" "Ljava/util/function/BiFunction;" fm) (hfm : fm.isRef = true) (TB0 : Tab Z h0 pb cl .byte zl) (hin : ¬ pi < (0 : Int32) ∧ pi < zl) :
    MetFree l (⟨"java/lang/StringLatin1", "charAt", "([BI)C"⟩ : MethodName) (head1 (Jvm.Cond.code (⟨"java/lang/StringLatin1", "charAt", "([BI)C"⟩ : MethodName) jdk_43_method_2_code 2 (some .char) :: ws) ({ frames := 2, cells := 0, slots := 0, locals := 27 } : Room)) (fun a U => a = #[(.ref pb), (.int pi)] ∧ Z.Warmed39 U.vm ∧ U.heap = h0) (fun _ _ _ _ _ => True) (fun _ U o U' => ∃ v L, o = .returned v ∧ own_Q_chL Z pb pi fm cl zl h0 n0 v U'.heap L ∧ FrameEnd U o U' L ({ frames := 2, cells := 0, slots := 0, locals := 27 } : Room).cells ({ frames := 2, cells := 0, slots := 0, locals := 27 } : Room).slots) := by
  refine MetFree.of_bodySF (plainFor_of_name own_pn_java_lang_StringLatin1) hisR ?_
  intro p e s m args below meth c s₁ Bd hml0 hP hKq_
  obtain ⟨rfl, hZ, hh⟩ := hP
  have hx := Bd.exec
  have hby := Bd.bytes
  have hml : c.maxLocals = 2 := hml0
  have hown : s.vm.findClass "java/lang/StringLatin1" = some m.cls := findClass_of_methodNamed Bd.named
  have hnm := (name_of_methodNamed Bd.named Bd.method).1
  have ow13 := hw _ (List.mem_of_getElem? (i := 13) rfl)
  have ow39 := hw _ (List.mem_of_getElem? (i := 39) rfl)
  have ow40 := hw _ (List.mem_of_getElem? (i := 40) rfl)
  have ow41 := hw _ (List.mem_of_getElem? (i := 41) rfl)
  have X0 : Stand p l e ({ frames := 2, cells := 0, slots := 0, locals := 27 } : Room) s m #[(.ref pb), (.int pi)] below meth c s₁ [] 0 0 := Stand.of_body Bd
  have e0 : s₁.heap = h0 := by rw [← hh, Bd.state]; rfl
  have N0 := Fr.nil n0
  have pre0 : ∀ t, Steps p.tables e below (s₁.setTop (mkF m 0 #[(oR pb), (oi pi)] [])) t → Steps p.tables e below (s₁.setTop (entryFrame m #[(.ref pb), (.int pi)] 2)) t := fun t k => castTop (own_ef_chL m pb pi) k
  refine own_go pre0 ?_
  refine own_abs ?_
  intro Pf hPf
  refine own_go (A := oW p e below s₁ (oF_chL m 2 (oR pb) (oi pi) [(.ref pb), (.int pi)])) (fun t k => by
    refine XS.iloadN X0.here hx rfl (hb hby o432_0) rfl ?_
    show oW p e below s₁ (oF_chL m 1 (oR pb) (oi pi) [(.int pi)]) _
    refine XS.aloadN X0.here hx rfl (hb hby o432_1) rfl rfl ?_
    exact k) ?_
  obtain ⟨Ar1, S1, N1, -⟩ := id (TB0)
  refine own_go (A := oW p e below s₁ (oF_chL m 3 (oR pb) (oi pi) [(.int zl), (.int pi)])) (fun t k => by
    refine X0.arraylength hx (by rw [e0]; exact Ar1.1) (State.isArrayOf_alike hZ.alike Ar1.2.1) (g := (oF_chL m 2 (oR pb) (oi pi) [(.ref pb), (.int pi)])) rfl rfl (hb hby o432_2) _ ?_
    rw [len_of S1 N1]
    exact k) ?_
  obtain ⟨_, _, ⟨T2, L2, k2, n2⟩, -, X2, ⟨Lc2, hQ2, l2, y2, z2⟩, st2⟩ := Jvm.LawKit.callS X0 hx (y := (⟨"java/lang/String", "checkIndex", "(II)V"⟩ : MethodName)) hown (mvT hZ ow39) (mvT hZ ow40) (mvT hZ ow13) (mvT hZ ow41) (by decide) (backOf (W := 0) (own_rm_chkS l Z a0 hw [] pi zl fm h0 n0 Z0 Sf0 hfm hin) hZ ow41 ow13 (by decide) (by decide)) (g := (oF_chL m 3 (oR pb) (oi pi) [(.int zl), (.int pi)])) rfl (by rw [hml]; rfl) (argsL := [(.int pi), (.int zl)]) (rest := []) (lenOf own_pd_28II29V rfl) rfl (by show 2 * 0 + _ ≤ _; exact Nat.le_of_eq rfl) (hb hby o432_3) (fun _ _ => ⟨rfl, e0, (by decide : 0 + 0 ≤ _), (by decide : 0 + 0 ≤ _)⟩)
  dsimp only [Pt.U, Pt.locs, Pt.cells, Pt.slots] at X2 l2 y2 z2 st2 hQ2
  subst l2 y2 z2
  obtain ⟨rfl, N2q, eh2⟩ := hQ2
  have N2 := Fr.app N0 N2q
  refine own_go st2 ?_
  refine own_go (A := oW p e below T2 (oF_chL m 8 (oR pb) (oi pi) [(.int pi), (.ref pb)])) (fun t k => by
    refine XS.aloadN X2.here hx rfl (hb hby o432_6) rfl rfl ?_
    show oW p e below T2 (oF_chL m 7 (oR pb) (oi pi) [(.ref pb)]) _
    refine XS.iloadN X2.here hx rfl (hb hby o432_7) rfl ?_
    exact k) ?_
  obtain ⟨Ar3, S3, -, H3⟩ := id (TB0)
  have hi3 : ¬ (pi < 0 ∨ cl.slots.size ≤ (pi).toNatClampNeg) := inb_of S3 hin
  have hv3 : cl.slots[(pi).toNatClampNeg]? = some (.int (atv cl pi)) := H3 _ hi3
  refine own_go (A := oW p e below T2 (oF_chL m 14 (oR pb) (oi pi) [(.int ((atv cl pi) &&& (255 : Int32)).toUInt32.toUInt16.toUInt32.toInt32)])) (fun t k => by
    refine X2.baloadBytes hx (j := pi) (v := (.int (atv cl pi))) (by rw [eh2]; exact Ar3.1) (State.isArrayOf_alike hZ.alike Ar3.2.1) Ar3.2.2 hi3 hv3 (g := (oF_chL m 8 (oR pb) (oi pi) [(.int pi), (.ref pb)])) rfl rfl (hb hby o432_8) _ ?_
    show oW p e below T2 (oF_chL m 9 (oR pb) (oi pi) [(.int (atv cl pi))]) _
    refine XS.sipush X2.here hx rfl (hb hby o432_9) ?_
    show oW p e below T2 (oF_chL m 12 (oR pb) (oi pi) [(.int 255), (.int (atv cl pi))]) _
    refine XS.iand X2.here hx rfl (hb hby o432_12) rfl ?_
    show oW p e below T2 (oF_chL m 13 (oR pb) (oi pi) [(.int ((atv cl pi) &&& (255 : Int32)))]) _
    refine XS.i2c X2.here hx rfl (hb hby o432_13) rfl ?_
    exact k) ?_
  obtain ⟨fs, hr, hrun, hended, hW, hsame⟩ := X2.leave (v := some (.int (nar .char ((atv cl pi) &&& (255 : Int32)).toUInt32.toUInt16.toUInt32.toInt32))) (fun h => by rw [Bd.returns] at h; cases h)
  refine ⟨_, _, retN X2 hx (t := .char) Bd.returns (by simp) (hb hby o432_14) hr, hPf _ _ ⟨hrun, hended, _, _, rfl, ?_, ⟨_, rfl⟩, hW, hsame.mono (by decide) (by decide)⟩⟩
  show own_Q_chL Z pb pi fm cl zl h0 n0 _ T2.heap _
  rw [eh2]
  exact ⟨rfl, N2, rfl⟩
theorem own_chc (w : Int32) : nar .char (own_ch w) = own_ch w := by
  show (own_ch w).toUInt32.toUInt16.toUInt32.toInt32 = own_ch w
  unfold own_ch
  show ((((w &&& (255 : Int32)).toUInt32.toUInt16.toUInt32.toInt32).toUInt32.toUInt16.toUInt32.toInt32).toUInt32.toUInt16.toUInt32.toInt32) = (((w &&& (255 : Int32)).toUInt32.toUInt16.toUInt32.toInt32).toUInt32.toUInt16.toUInt32.toInt32)
  simp only [UInt32.toUInt32_toInt32, UInt16.toUInt16_toUInt32]
abbrev oF_chA (m : MethodId) (pc : Nat) (a0 a1 : Slot) (S : List Value) : JFrame := mkF m pc #[a0, a1] S
theorem o256_0 : decode jdk_42_method_56_code 0 = .ok (.aload_n 0, 1) := by decide +kernel
theorem o256_1 : decode jdk_42_method_56_code 1 = .ok (.invokevirtual 492, 3) := by decide +kernel
theorem own_pd_2829Z : parseMethodDescriptor "()Z" = some ⟨[], some .boolean⟩ := by decide +kernel
theorem o256_4 : decode jdk_42_method_56_code 4 = .ok (.ifCond .eq 12, 3) := by decide +kernel
theorem o256_7 : decode jdk_42_method_56_code 7 = .ok (.aload_n 0, 1) := by decide +kernel
theorem o256_8 : decode jdk_42_method_56_code 8 = .ok (.getfield 9, 3) := by decide +kernel
theorem o256_11 : decode jdk_42_method_56_code 11 = .ok (.iload_n 1, 1) := by decide +kernel
theorem o256_12 : decode jdk_42_method_56_code 12 = .ok (.invokestatic 495, 3) := by decide +kernel
theorem own_pd_285bBI29C : parseMethodDescriptor "([BI)C" = some ⟨[(.array .byte), .int], some .char⟩ := by decide +kernel
theorem o256_15 : decode jdk_42_method_56_code 15 = .ok (.ireturn, 1) := by decide +kernel
theorem own_ef_chA (m : MethodId) (x0 : Addr) (x1 : Int32) : entryFrame m #[(.ref x0), (.int x1)] 2 = mkF m 0 #[(oR x0), (oi x1)] [] := by first | (simp [entryFrame, mkF, argsToLocals, Value.category]; done) | rfl
def own_Q_chA (Z : State) (ps : Addr) (pi : Int32) (cz : Int32) (fm : Value) (pb : Addr) (cl : Cell) (zl : Int32) (h0 : Heap) (n0 : Nat) (v : Option Value) (h : Heap) (L : List Loc) : Prop := v = some (.int (own_ch (atv cl pi))) ∧ Fr n0 L ∧ h = h0
set_option maxRecDepth 65536 in
set_option maxHeartbeats 40000000 in
theorem own_rm_chA (l : Launch) (Z : State) (a0 : Array Value) (hw : ∀ d ∈ tables_1, d.before a0 Z = true) (ws : List Jvm.Cond) (ps : Addr) (pi : Int32) (cz : Int32) (fm : Value) (pb : Addr) (cl : Cell) (zl : Int32) (h0 : Heap) (n0 : Nat) (Z0 : n0 ≤ h0.size) (Sc0 : Sta Z h0 "java/lang/String" "COMPACT_STRINGS" "Z" (.int cz)) (hcz : ¬ cz = (0 : Int32)) (Sf0 : Sta Z h0 "jdk/internal/util/Preconditions" "SIOOBE_FORMATTER" "Ljava/util/function/BiFunction;" fm) (hfm : fm.isRef = true) (TB0 : Tab Z h0 pb cl .byte zl) (hin : ¬ pi < (0 : Int32) ∧ pi < zl) (Fc0 : Fld Z h0 ps "java/lang/String" "coder" "B" (.int 0)) (Fv0 : Fld Z h0 ps "java/lang/String" "value" "[B" (.ref pb)) (Ex0 : Exa Z h0 ps "java/lang/String") :
    MetFree l (⟨"java/lang/String", "charAt", "(I)C"⟩ : MethodName) (head1 (Jvm.Cond.code (⟨"java/lang/String", "charAt", "(I)C"⟩ : MethodName) jdk_42_method_56_code 2 (some .char) :: ws) ({ frames := 3, cells := 0, slots := 0, locals := 40 } : Room)) (fun a U => a = #[(.ref ps), (.int pi)] ∧ Z.Warmed39 U.vm ∧ U.heap = h0) (fun _ _ _ _ _ => True) (fun _ U o U' => ∃ v L, o = .returned v ∧ own_Q_chA Z ps pi cz fm pb cl zl h0 n0 v U'.heap L ∧ FrameEnd U o U' L ({ frames := 3, cells := 0, slots := 0, locals := 40 } : Room).cells ({ frames := 3, cells := 0, slots := 0, locals := 40 } : Room).slots) := by
  refine MetFree.of_bodySF (plainFor_of_name own_pn_java_lang_String) hisR ?_
  intro p e s m args below meth c s₁ Bd hml0 hP hKq_
  obtain ⟨rfl, hZ, hh⟩ := hP
  have hx := Bd.exec
  have hby := Bd.bytes
  have hml : c.maxLocals = 2 := hml0
  have hown : s.vm.findClass "java/lang/String" = some m.cls := findClass_of_methodNamed Bd.named
  have hnm := (name_of_methodNamed Bd.named Bd.method).1
  have ow13 := hw _ (List.mem_of_getElem? (i := 13) rfl)
  have ow15 := hw _ (List.mem_of_getElem? (i := 15) rfl)
  have ow30 := hw _ (List.mem_of_getElem? (i := 30) rfl)
  have ow31 := hw _ (List.mem_of_getElem? (i := 31) rfl)
  have ow32 := hw _ (List.mem_of_getElem? (i := 32) rfl)
  have ow33 := hw _ (List.mem_of_getElem? (i := 33) rfl)
  have ow34 := hw _ (List.mem_of_getElem? (i := 34) rfl)
  have ow35 := hw _ (List.mem_of_getElem? (i := 35) rfl)
  have ow36 := hw _ (List.mem_of_getElem? (i := 36) rfl)
  have ow37 := hw _ (List.mem_of_getElem? (i := 37) rfl)
  have ow38 := hw _ (List.mem_of_getElem? (i := 38) rfl)
  have X0 : Stand p l e ({ frames := 3, cells := 0, slots := 0, locals := 40 } : Room) s m #[(.ref ps), (.int pi)] below meth c s₁ [] 0 0 := Stand.of_body Bd
  have e0 : s₁.heap = h0 := by rw [← hh, Bd.state]; rfl
  have N0 := Fr.nil n0
  have pre0 : ∀ t, Steps p.tables e below (s₁.setTop (mkF m 0 #[(oR ps), (oi pi)] [])) t → Steps p.tables e below (s₁.setTop (entryFrame m #[(.ref ps), (.int pi)] 2)) t := fun t k => castTop (own_ef_chA m ps pi) k
  refine own_go pre0 ?_
  refine own_abs ?_
  intro Pf hPf
  refine own_go (A := oW p e below s₁ (oF_chA m 1 (oR ps) (oi pi) [(.ref ps)])) (fun t k => by
    refine XS.aloadN X0.here hx rfl (hb hby o256_0) rfl rfl ?_
    exact k) ?_
  obtain ⟨cq1, kq1, q1a, q1b, q1c⟩ := isOf hZ e0 Ex0
  obtain ⟨_, _, ⟨T1, L1, k1, n1⟩, -, X1, ⟨Lc1, hQ1, l1, y1, z1⟩, st1⟩ := X0.virtualBack hx (y := (⟨"java/lang/String", "isLatin1", "()Z"⟩ : MethodName)) (z := (⟨"java/lang/String", "isLatin1", "()Z"⟩ : MethodName)) hown (mvT hZ ow30) (mvT hZ ow31) (notFace_of_selects (args := #[]) (mvT hZ ow33)) (mvT hZ ow33) (mvT hZ ow32) (by decide) (backOf (W := 0) (own_rm_isLatin1 l Z a0 hw [] ps cz h0 n0 Z0 Sc0 hcz Fc0) hZ ow34 ow13 (by decide) (by decide)) q1a q1c (g := (oF_chA m 1 (oR ps) (oi pi) [(.ref ps)])) rfl (by rw [hml]; rfl) (Steps.refl _) (argsL := []) (rest := []) (lenOf own_pd_2829Z rfl) rfl (by show 2 * 0 + _ ≤ _; exact Nat.le_of_eq rfl) (hb hby o256_1) (fun _ _ => ⟨rfl, e0, (by decide : 0 + 0 ≤ _), (by decide : 0 + 0 ≤ _)⟩)
  dsimp only [Pt.U, Pt.locs, Pt.cells, Pt.slots] at X1 l1 y1 z1 st1 hQ1
  subst l1 y1 z1
  obtain ⟨rfl, N1q, eh1⟩ := hQ1
  have N1 := Fr.app N0 N1q
  refine own_go (fun _ k => st1.trans k) ?_
  refine own_go (A := oW p e below T1 (oF_chA m 8 (oR ps) (oi pi) [(.ref ps)])) (fun t k => by
    refine XS.ifNo X1.here hx rfl (hb hby o256_4) rfl ((if0 _ _).trans (feq (by decide : ¬ ((1 : Int32) = (0 : Int32)))).1) ?_
    show oW p e below T1 (oF_chA m 7 (oR ps) (oi pi) []) _
    refine XS.aloadN X1.here hx rfl (hb hby o256_7) rfl rfl ?_
    exact k) ?_
  obtain ⟨T2, X2, e2, st2⟩ := getF X1 hx hZ hown (host := "") (Or.inl ow15) Via.refl eh1 Fv0 (g := (oF_chA m 8 (oR ps) (oi pi) [(.ref ps)])) rfl rfl (hb hby o256_8)
  refine own_go st2 ?_
  refine own_go (A := oW p e below T2 (oF_chA m 12 (oR ps) (oi pi) [(.int pi), (.ref pb)])) (fun t k => by
    refine XS.iloadN X2.here hx rfl (hb hby o256_11) rfl ?_
    exact k) ?_
  obtain ⟨_, _, ⟨T3, L3, k3, n3⟩, -, X3, ⟨Lc3, hQ3, l3, y3, z3⟩, st3⟩ := Jvm.LawKit.callS X2 hx (y := (⟨"java/lang/StringLatin1", "charAt", "([BI)C"⟩ : MethodName)) hown (mvT hZ ow35) (mvT hZ ow36) (mvT hZ ow37) (mvT hZ ow38) (by decide) (backOf (W := 0) (own_rm_chL l Z a0 hw [] pb pi fm cl zl h0 n0 Z0 Sf0 hfm TB0 hin) hZ ow38 ow37 (by decide) (by decide)) (g := (oF_chA m 12 (oR ps) (oi pi) [(.int pi), (.ref pb)])) rfl (by rw [hml]; rfl) (argsL := [(.ref pb), (.int pi)]) (rest := []) (lenOf own_pd_285bBI29C rfl) rfl (by show 2 * 0 + _ ≤ _; exact Nat.le_of_eq rfl) (hb hby o256_12) (fun _ _ => ⟨rfl, e2, (by decide : 0 + 0 ≤ _), (by decide : 0 + 0 ≤ _)⟩)
  dsimp only [Pt.U, Pt.locs, Pt.cells, Pt.slots] at X3 l3 y3 z3 st3 hQ3
  subst l3 y3 z3
  obtain ⟨rfl, N3q, eh3⟩ := hQ3
  have N3 := Fr.app N1 N3q
  refine own_go st3 ?_
  obtain ⟨fs, hr, hrun, hended, hW, hsame⟩ := X3.leave (v := some (.int (nar .char (own_ch (atv cl pi))))) (fun h => by rw [Bd.returns] at h; cases h)
  refine ⟨_, _, retN X3 hx (t := .char) Bd.returns (by simp) (hb hby o256_15) hr, hPf _ _ ⟨hrun, hended, _, _, rfl, ?_, ⟨_, rfl⟩, hW, hsame.mono (by decide) (by decide)⟩⟩
  show own_Q_chA Z ps pi cz fm pb cl zl h0 n0 _ T3.heap _
  rw [eh3]
  exact ⟨by rw [own_chc], N3, rfl⟩
theorem own_sh0 (z : Int32) : z >>> ((0 : Int32) &&& 31) = z := by
  have : ((0 : Int32) &&& 31) = 0 := by decide
  rw [this]; simp
abbrev oF_len (m : MethodId) (pc : Nat) (a0 : Slot) (S : List Value) : JFrame := mkF m pc #[a0] S
theorem o254_0 : decode jdk_42_method_54_code 0 = .ok (.aload_n 0, 1) := by decide +kernel
theorem o254_1 : decode jdk_42_method_54_code 1 = .ok (.getfield 9, 3) := by decide +kernel
theorem o254_4 : decode jdk_42_method_54_code 4 = .ok (.arraylength, 1) := by decide +kernel
theorem o254_5 : decode jdk_42_method_54_code 5 = .ok (.aload_n 0, 1) := by decide +kernel
theorem o254_6 : decode jdk_42_method_54_code 6 = .ok (.invokevirtual 335, 3) := by decide +kernel
theorem own_pd_2829B : parseMethodDescriptor "()B" = some ⟨[], some .byte⟩ := by decide +kernel
theorem o254_9 : decode jdk_42_method_54_code 9 = .ok (.ishr, 1) := by decide +kernel
theorem o254_10 : decode jdk_42_method_54_code 10 = .ok (.ireturn, 1) := by decide +kernel
theorem own_ef_len (m : MethodId) (x0 : Addr) : entryFrame m #[(.ref x0)] 1 = mkF m 0 #[(oR x0)] [] := by first | (simp [entryFrame, mkF, argsToLocals, Value.category]; done) | rfl
def own_Q_len (Z : State) (ps : Addr) (cz : Int32) (pb : Addr) (cl : Cell) (zl : Int32) (h0 : Heap) (n0 : Nat) (v : Option Value) (h : Heap) (L : List Loc) : Prop := v = some (.int zl) ∧ Fr n0 L ∧ h = h0
set_option maxRecDepth 65536 in
set_option maxHeartbeats 40000000 in
theorem own_rm_len (l : Launch) (Z : State) (a0 : Array Value) (hw : ∀ d ∈ tables_1, d.before a0 Z = true) (ws : List Jvm.Cond) (ps : Addr) (cz : Int32) (pb : Addr) (cl : Cell) (zl : Int32) (h0 : Heap) (n0 : Nat) (Z0 : n0 ≤ h0.size) (Sc0 : Sta Z h0 "java/lang/String" "COMPACT_STRINGS" "Z" (.int cz)) (hcz : ¬ cz = (0 : Int32)) (TB0 : Tab Z h0 pb cl .byte zl) (Fc0 : Fld Z h0 ps "java/lang/String" "coder" "B" (.int 0)) (Fv0 : Fld Z h0 ps "java/lang/String" "value" "[B" (.ref pb)) (Ex0 : Exa Z h0 ps "java/lang/String") :
    MetFree l (⟨"java/lang/String", "length", "()I"⟩ : MethodName) (head1 (Jvm.Cond.code (⟨"java/lang/String", "length", "()I"⟩ : MethodName) jdk_42_method_54_code 1 (some .int) :: ws) ({ frames := 1, cells := 0, slots := 0, locals := 13 } : Room)) (fun a U => a = #[(.ref ps)] ∧ Z.Warmed39 U.vm ∧ U.heap = h0) (fun _ _ _ _ _ => True) (fun _ U o U' => ∃ v L, o = .returned v ∧ own_Q_len Z ps cz pb cl zl h0 n0 v U'.heap L ∧ FrameEnd U o U' L ({ frames := 1, cells := 0, slots := 0, locals := 13 } : Room).cells ({ frames := 1, cells := 0, slots := 0, locals := 13 } : Room).slots) := by
  refine MetFree.of_bodySF (plainFor_of_name own_pn_java_lang_String) hisR ?_
  intro p e s m args below meth c s₁ Bd hml0 hP hKq_
  obtain ⟨rfl, hZ, hh⟩ := hP
  have hx := Bd.exec
  have hby := Bd.bytes
  have hml : c.maxLocals = 1 := hml0
  have hown : s.vm.findClass "java/lang/String" = some m.cls := findClass_of_methodNamed Bd.named
  have hnm := (name_of_methodNamed Bd.named Bd.method).1
  have ow13 := hw _ (List.mem_of_getElem? (i := 13) rfl)
  have ow15 := hw _ (List.mem_of_getElem? (i := 15) rfl)
  have ow17 := hw _ (List.mem_of_getElem? (i := 17) rfl)
  have ow18 := hw _ (List.mem_of_getElem? (i := 18) rfl)
  have ow19 := hw _ (List.mem_of_getElem? (i := 19) rfl)
  have ow20 := hw _ (List.mem_of_getElem? (i := 20) rfl)
  have ow21 := hw _ (List.mem_of_getElem? (i := 21) rfl)
  have X0 : Stand p l e ({ frames := 1, cells := 0, slots := 0, locals := 13 } : Room) s m #[(.ref ps)] below meth c s₁ [] 0 0 := Stand.of_body Bd
  have e0 : s₁.heap = h0 := by rw [← hh, Bd.state]; rfl
  have N0 := Fr.nil n0
  have pre0 : ∀ t, Steps p.tables e below (s₁.setTop (mkF m 0 #[(oR ps)] [])) t → Steps p.tables e below (s₁.setTop (entryFrame m #[(.ref ps)] 1)) t := fun t k => castTop (own_ef_len m ps) k
  refine own_go pre0 ?_
  refine own_abs ?_
  intro Pf hPf
  refine own_go (A := oW p e below s₁ (oF_len m 1 (oR ps) [(.ref ps)])) (fun t k => by
    refine XS.aloadN X0.here hx rfl (hb hby o254_0) rfl rfl ?_
    exact k) ?_
  obtain ⟨T1, X1, e1, st1⟩ := getF X0 hx hZ hown (host := "") (Or.inl ow15) Via.refl e0 Fv0 (g := (oF_len m 1 (oR ps) [(.ref ps)])) rfl rfl (hb hby o254_1)
  refine own_go st1 ?_
  obtain ⟨Ar2, S2, N2, -⟩ := id (TB0)
  refine own_go (A := oW p e below T1 (oF_len m 6 (oR ps) [(.ref ps), (.int zl)])) (fun t k => by
    refine X1.arraylength hx (by rw [e1]; exact Ar2.1) (State.isArrayOf_alike hZ.alike Ar2.2.1) (g := (oF_len m 4 (oR ps) [(.ref pb)])) rfl rfl (hb hby o254_4) _ ?_
    rw [len_of S2 N2]
    show oW p e below T1 (oF_len m 5 (oR ps) [(.int zl)]) _
    refine XS.aloadN X1.here hx rfl (hb hby o254_5) rfl rfl ?_
    exact k) ?_
  obtain ⟨cq3, kq3, q3a, q3b, q3c⟩ := isOf hZ e1 Ex0
  obtain ⟨_, _, ⟨T3, L3, k3, n3⟩, -, X3, ⟨Lc3, hQ3, l3, y3, z3⟩, st3⟩ := X1.virtualBack hx (y := (⟨"java/lang/String", "coder", "()B"⟩ : MethodName)) (z := (⟨"java/lang/String", "coder", "()B"⟩ : MethodName)) hown (mvT hZ ow17) (mvT hZ ow18) (notFace_of_selects (args := #[]) (mvT hZ ow20)) (mvT hZ ow20) (mvT hZ ow19) (by decide) (backOf (W := 1) (own_rm_coder l Z a0 hw [] ps cz h0 n0 Z0 Sc0 hcz Fc0) hZ ow21 ow13 (by decide) (by decide)) q3a q3c (g := (oF_len m 6 (oR ps) [(.ref ps), (.int zl)])) rfl (by rw [hml]; rfl) (Steps.refl _) (argsL := []) (rest := [(.int zl)]) (lenOf own_pd_2829B rfl) rfl (by show 2 * 0 + _ ≤ _; exact Nat.le_of_eq rfl) (hb hby o254_6) (fun _ _ => ⟨rfl, e1, (by decide : 0 + 0 ≤ _), (by decide : 0 + 0 ≤ _)⟩)
  dsimp only [Pt.U, Pt.locs, Pt.cells, Pt.slots] at X3 l3 y3 z3 st3 hQ3
  subst l3 y3 z3
  obtain ⟨rfl, N3q, eh3⟩ := hQ3
  have N3 := Fr.app N0 N3q
  refine own_go (fun _ k => st3.trans k) ?_
  refine own_go (A := oW p e below T3 (oF_len m 10 (oR ps) [(.int (zl >>> ((0 : Int32) &&& 31)))])) (fun t k => by
    refine XS.ishr X3.here hx rfl (hb hby o254_9) rfl ?_
    exact k) ?_
  obtain ⟨fs, hr, hrun, hended, hW, hsame⟩ := X3.leave (v := some (.int (zl >>> ((0 : Int32) &&& 31)))) (fun h => by rw [Bd.returns] at h; cases h)
  refine ⟨_, _, retOut X3 hx Bd.returns rfl (Or.inl ⟨rfl, Or.inl rfl, _, rfl⟩) (hb hby o254_10) hr, hPf _ _ ⟨hrun, hended, _, _, rfl, ?_, ⟨_, rfl⟩, hW, hsame.mono (by decide) (by decide)⟩⟩
  show own_Q_len Z ps cz pb cl zl h0 n0 _ T3.heap _
  rw [eh3]
  exact ⟨by rw [own_sh0], N3, rfl⟩
theorem own_tabw {Z : State} {h h' : Heap} {a b : Addr} {cl : Cell} {ty : FieldType} {n : Int32} {sl : Nat} {v : Value} (F : Tab Z h a cl ty n) (W : Wr h h' b sl v) (q : a ≠ b) : Tab Z h' a cl ty n := ⟨F.1.other W q, F.2⟩
abbrev oF_abI (m : MethodId) (pc : Nat) (a0 a1 : Slot) (S : List Value) : JFrame := mkF m pc #[a0, a1] S
theorem o682_0 : decode jdk_68_method_2_code 0 = .ok (.aload_n 0, 1) := by decide +kernel
theorem o682_1 : decode jdk_68_method_2_code 1 = .ok (.invokespecial 3, 3) := by decide +kernel
theorem o682_4 : decode jdk_68_method_2_code 4 = .ok (.getstatic 18, 3) := by decide +kernel
theorem o682_7 : decode jdk_68_method_2_code 7 = .ok (.ifCond .eq 18, 3) := by decide +kernel
theorem o682_10 : decode jdk_68_method_2_code 10 = .ok (.aload_n 0, 1) := by decide +kernel
theorem o682_11 : decode jdk_68_method_2_code 11 = .ok (.iload_n 1, 1) := by decide +kernel
theorem o682_12 : decode jdk_68_method_2_code 12 = .ok (.newarray .byte, 2) := by decide +kernel
theorem o682_14 : decode jdk_68_method_2_code 14 = .ok (.putfield 15, 3) := by decide +kernel
theorem o682_17 : decode jdk_68_method_2_code 17 = .ok (.aload_n 0, 1) := by decide +kernel
theorem o682_18 : decode jdk_68_method_2_code 18 = .ok (.iconst 0, 1) := by decide +kernel
theorem o682_19 : decode jdk_68_method_2_code 19 = .ok (.putfield 22, 3) := by decide +kernel
theorem o682_22 : decode jdk_68_method_2_code 22 = .ok (.goto 16, 3) := by decide +kernel
theorem o682_38 : decode jdk_68_method_2_code 38 = .ok (.return_, 1) := by decide +kernel
theorem own_ef_abI (m : MethodId) (x0 : Addr) (x1 : Int32) : entryFrame m #[(.ref x0), (.int x1)] 2 = mkF m 0 #[(oR x0), (oi x1)] [] := by first | (simp [entryFrame, mkF, argsToLocals, Value.category]; done) | rfl
def own_Q_abI (Z : State) (sb : Addr) (cz : Int32) (h0 : Heap) (n0 : Nat) (v : Option Value) (h : Heap) (L : List Loc) : Prop := ∃ (bv : Addr) (kb : ClassId), v = none ∧ Fr n0 L ∧ Keep h0 h [sb] ∧ h0.size ≤ bv ∧ Fld Z h sb "java/lang/AbstractStringBuilder" "value" "[B" (.ref bv) ∧ Fld Z h sb "java/lang/AbstractStringBuilder" "coder" "B" (.int 0) ∧ Fld Z h sb "java/lang/AbstractStringBuilder" "count" "I" (.int 0) ∧ Arv Z h bv kb .byte (16 : Int32) [(.int 0), (.int 0), (.int 0), (.int 0), (.int 0), (.int 0), (.int 0), (.int 0), (.int 0), (.int 0), (.int 0), (.int 0), (.int 0), (.int 0), (.int 0), (.int 0)] (.int 0) ∧ Sta Z h "java/lang/String" "COMPACT_STRINGS" "Z" (.int cz)
theorem own_pn_java_lang_AbstractStringBuilder : plainName "java/lang/AbstractStringBuilder" = true := by first | (simp [plainName, overriddenIn]; done) | decide +kernel
set_option maxRecDepth 65536 in
set_option maxHeartbeats 40000000 in
theorem own_rm_abI (l : Launch) (Z : State) (a0 : Array Value) (hw : ∀ d ∈ tables_1, d.before a0 Z = true) (ws : List Jvm.Cond) (sb : Addr) (cz : Int32) (h0 : Heap) (n0 : Nat) (Z0 : n0 ≤ h0.size) (Eb0 : Exa Z h0 sb "java/lang/StringBuilder") (Fbv : Fld Z h0 sb "java/lang/AbstractStringBuilder" "value" "[B" .null) (Fbc : Fld Z h0 sb "java/lang/AbstractStringBuilder" "coder" "B" (.int 0)) (Fbn : Fld Z h0 sb "java/lang/AbstractStringBuilder" "count" "I" (.int 0)) (g_sb : n0 ≤ sb) (Sc0 : Sta Z h0 "java/lang/String" "COMPACT_STRINGS" "Z" (.int cz)) (hcz : ¬ cz = (0 : Int32)) :
    MetFree l (⟨"java/lang/AbstractStringBuilder", "<init>", "(I)V"⟩ : MethodName) (head1 (Jvm.Cond.code (⟨"java/lang/AbstractStringBuilder", "<init>", "(I)V"⟩ : MethodName) jdk_68_method_2_code 2 none :: ws) ({ frames := 1, cells := 1, slots := 16, locals := 12 } : Room)) (fun a U => a = #[(.ref sb), (.int 16)] ∧ Z.Warmed39 U.vm ∧ U.heap = h0) (fun _ _ _ _ _ => True) (fun _ U o U' => ∃ v L, o = .returned v ∧ own_Q_abI Z sb cz h0 n0 v U'.heap L ∧ FrameEnd U o U' L ({ frames := 1, cells := 1, slots := 16, locals := 12 } : Room).cells ({ frames := 1, cells := 1, slots := 16, locals := 12 } : Room).slots) := by
  refine MetFree.of_bodySF (plainFor_of_name own_pn_java_lang_AbstractStringBuilder) hisR ?_
  intro p e s m args below meth c s₁ Bd hml0 hP hKq_
  obtain ⟨rfl, hZ, hh⟩ := hP
  have hx := Bd.exec
  have hby := Bd.bytes
  have hml : c.maxLocals = 2 := hml0
  have hown : s.vm.findClass "java/lang/AbstractStringBuilder" = some m.cls := findClass_of_methodNamed Bd.named
  have hnm := (name_of_methodNamed Bd.named Bd.method).1
  have ow48 := hw _ (List.mem_of_getElem? (i := 48) rfl)
  have ow59 := hw _ (List.mem_of_getElem? (i := 59) rfl)
  have ow60 := hw _ (List.mem_of_getElem? (i := 60) rfl)
  have ow61 := hw _ (List.mem_of_getElem? (i := 61) rfl)
  have ow62 := hw _ (List.mem_of_getElem? (i := 62) rfl)
  have ow63 := hw _ (List.mem_of_getElem? (i := 63) rfl)
  have ow64 := hw _ (List.mem_of_getElem? (i := 64) rfl)
  have ow65 := hw _ (List.mem_of_getElem? (i := 65) rfl)
  have ow66 := hw _ (List.mem_of_getElem? (i := 66) rfl)
  have ow67 := hw _ (List.mem_of_getElem? (i := 67) rfl)
  have ow84 := hw _ (List.mem_of_getElem? (i := 84) rfl)
  have X0 : Stand p l e ({ frames := 1, cells := 1, slots := 16, locals := 12 } : Room) s m #[(.ref sb), (.int 16)] below meth c s₁ [] 0 0 := Stand.of_body Bd
  have e0 : s₁.heap = h0 := by rw [← hh, Bd.state]; rfl
  have N0 := Fr.nil n0
  have pre0 : ∀ t, Steps p.tables e below (s₁.setTop (mkF m 0 #[(oR sb), (oi 16)] [])) t → Steps p.tables e below (s₁.setTop (entryFrame m #[(.ref sb), (.int 16)] 2)) t := fun t k => castTop (own_ef_abI m sb (16 : Int32)) k
  refine own_go pre0 ?_
  refine own_abs ?_
  intro Pf hPf
  refine own_go (A := oW p e below s₁ (oF_abI m 1 (oR sb) (oi 16) [(.ref sb)])) (fun t k => by
    refine XS.aloadN X0.here hx rfl (hb hby o682_0) rfl rfl ?_
    exact k) ?_
  obtain ⟨T1, X1, e1, st1⟩ := initO X0 hx hZ hown ow59 ow60 ow61 e0 (g := (oF_abI m 1 (oR sb) (oi 16) [(.ref sb)])) rfl (by rw [hml]; rfl) rfl (hb hby o682_1) (by decide) (W := 0) (by show 2 * 0 + _ ≤ _; exact Nat.le_of_eq rfl) (by decide)
  refine own_go st1 ?_
  obtain ⟨T2, X2, e2, st2⟩ := getS2 X1 hx hZ hown (host := "") (Or.inl ow62) Via.refl e1 Sc0 (g := (oF_abI m 4 (oR sb) (oi 16) [])) rfl (hb hby o682_4)
  refine own_go st2 ?_
  refine own_go (A := oW p e below T2 (oF_abI m 12 (oR sb) (oi 16) [(.int 16), (.ref sb)])) (fun t k => by
    refine XS.ifNo X2.here hx rfl (hb hby o682_7) rfl ((if0 _ _).trans (feq hcz).1) ?_
    show oW p e below T2 (oF_abI m 10 (oR sb) (oi 16) []) _
    refine XS.aloadN X2.here hx rfl (hb hby o682_10) rfl rfl ?_
    show oW p e below T2 (oF_abI m 11 (oR sb) (oi 16) [(.ref sb)]) _
    refine XS.iloadN X2.here hx rfl (hb hby o682_11) rfl ?_
    exact k) ?_
  obtain ⟨T3, h3, k3, X3, e3, E3, A3, st3⟩ := newP X2 hx hZ (aty := .byte) ow63 e2 (g := (oF_abI m 12 (oR sb) (oi 16) [(.int 16), (.ref sb)])) rfl (hb hby o682_12) rfl (by decide) (cap := 16) (by decide) (by decide) (by decide) (by decide)
  obtain ⟨b3, g3⟩ : ∃ z, z = h0.size := ⟨_, rfl⟩
  rw [← g3] at A3 st3
  refine own_go st3 ?_
  have ne_sb_b3 : sb ≠ b3 := Nat.ne_of_lt (Nat.lt_of_lt_of_le Eb0.lt (Nat.le_of_eq g3.symm))
  have g_b3 : n0 ≤ b3 := Nat.le_trans Z0 (Nat.le_of_eq g3.symm)
  have Z3 : n0 ≤ h3.size := Nat.le_trans Z0 E3.1
  have sz_b3 : h0.size ≤ b3 := Nat.le_trans (Keep.refl h0 [sb]).1 (Nat.le_of_eq g3.symm)
  have K3 : Keep h0 h3 [sb] := (Keep.refl h0 [sb]).ext E3
  have U3 : Arv Z h3 b3 k3 .byte (16 : Int32) [] (.int 0) := Arv.new A3 (by decide)
  have V3 : Arv Z h3 b3 k3 .byte (16 : Int32) [(.int 0), (.int 0), (.int 0), (.int 0), (.int 0), (.int 0), (.int 0), (.int 0), (.int 0), (.int 0), (.int 0), (.int 0), (.int 0), (.int 0), (.int 0), (.int 0)] (.int 0) := U3.pad (pad_rep [] (.int 0) 16)
  obtain ⟨T4, h4, X4, e4, W4, st4⟩ := putF X3 hx hZ hown (host := "") (Or.inl ow64) Via.refl e3 (Fbv.ext E3) (Eb0.ext E3) (Or.inl ow65) ow48 (ty := (.array .byte)) (by decide) rfl rfl (g := (oF_abI m 14 (oR sb) (oi 16) [(.ref b3), (.ref sb)])) rfl rfl (hb hby o682_14)
  refine own_go st4 ?_
  have f4_0 : Exa Z h4 sb "java/lang/StringBuilder" := (Eb0.ext E3).wr W4
  have f4_1 : Fld Z h4 sb "java/lang/AbstractStringBuilder" "value" "[B" (.ref b3) := (Fbv.ext E3).same W4
  have f4_2 : Fld Z h4 sb "java/lang/AbstractStringBuilder" "coder" "B" (.int 0) := (Fbc.ext E3).other W4 (Or.inr (slot_ne (Or.inl ow67) (Or.inl ow65) (by decide) (t := .byte) (t' := (.array .byte)) (by decide) (by decide)))
  have f4_3 : Fld Z h4 sb "java/lang/AbstractStringBuilder" "count" "I" (.int 0) := (Fbn.ext E3).other W4 (Or.inr (slot_ne (Or.inl ow84) (Or.inl ow65) (by decide) (t := .int) (t' := (.array .byte)) (by decide) (by decide)))
  have f4_4 : Sta Z h4 "java/lang/String" "COMPACT_STRINGS" "Z" (.int cz) := (Sc0.ext E3).wr W4
  have f4_5 : Arv Z h4 b3 k3 .byte (16 : Int32) [(.int 0), (.int 0), (.int 0), (.int 0), (.int 0), (.int 0), (.int 0), (.int 0), (.int 0), (.int 0), (.int 0), (.int 0), (.int 0), (.int 0), (.int 0), (.int 0)] (.int 0) := V3.other W4 ((Ne.symm ne_sb_b3))
  have N4 := Fr.snoc X4 N0 g_sb
  have Z4 : n0 ≤ h4.size := Nat.le_trans Z3 (Keep.of_wr W4).1
  have K4 : Keep h0 h4 [sb] := K3.wr W4 (Or.inl (List.mem_of_getElem? (i := 0) rfl))
  refine own_go (A := oW p e below T4 (oF_abI m 19 (oR sb) (oi 16) [(.int 0), (.ref sb)])) (fun t k => by
    refine XS.aloadN X4.here hx rfl (hb hby o682_17) rfl rfl ?_
    show oW p e below T4 (oF_abI m 18 (oR sb) (oi 16) [(.ref sb)]) _
    refine XS.iconst X4.here hx rfl (hb hby o682_18) ?_
    exact k) ?_
  obtain ⟨T5, h5, X5, e5, W5, st5⟩ := putFN X4 hx hZ hown ow66 Via.refl e4 f4_2 f4_0 (Or.inl ow67) ow48 (ty := .byte) (v' := .int (nar .byte (0 : Int32))) (by decide) rfl (fits_nar_byte _) (g := (oF_abI m 19 (oR sb) (oi 16) [(.int 0), (.ref sb)])) rfl rfl (hb hby o682_19)
  refine own_go st5 ?_
  have f5_0 : Exa Z h5 sb "java/lang/StringBuilder" := f4_0.wr W5
  have f5_1 : Fld Z h5 sb "java/lang/AbstractStringBuilder" "value" "[B" (.ref b3) := f4_1.other W5 (Or.inr (slot_ne (Or.inl ow65) (Or.inl ow67) (by decide) (t := (.array .byte)) (t' := .byte) (by decide) (by decide)))
  have f5_2 : Fld Z h5 sb "java/lang/AbstractStringBuilder" "coder" "B" (.int 0) := f4_2.same W5
  have f5_3 : Fld Z h5 sb "java/lang/AbstractStringBuilder" "count" "I" (.int 0) := f4_3.other W5 (Or.inr (slot_ne (Or.inl ow84) (Or.inl ow67) (by decide) (t := .int) (t' := .byte) (by decide) (by decide)))
  have f5_4 : Sta Z h5 "java/lang/String" "COMPACT_STRINGS" "Z" (.int cz) := f4_4.wr W5
  have f5_5 : Arv Z h5 b3 k3 .byte (16 : Int32) [(.int 0), (.int 0), (.int 0), (.int 0), (.int 0), (.int 0), (.int 0), (.int 0), (.int 0), (.int 0), (.int 0), (.int 0), (.int 0), (.int 0), (.int 0), (.int 0)] (.int 0) := f4_5.other W5 ((Ne.symm ne_sb_b3))
  have N5 := Fr.snoc X5 N4 g_sb
  have Z5 : n0 ≤ h5.size := Nat.le_trans Z4 (Keep.of_wr W5).1
  have K5 : Keep h0 h5 [sb] := K4.wr W5 (Or.inl (List.mem_of_getElem? (i := 0) rfl))
  refine own_go (A := oW p e below T5 (oF_abI m 38 (oR sb) (oi 16) [])) (fun t k => by
    refine XS.goto X5.here hx rfl (pc0 := 22) (pc' := 38) rfl (hb hby o682_22) (by decide) (by decide) ?_
    exact k) ?_
  obtain ⟨fs, hr, hrun, hended, hW, hsame⟩ := X5.leave (v := none) (fun _ => rfl)
  refine ⟨_, _, X5.returnOut hx Bd.returns (hb hby o682_38) hr, hPf _ _ ⟨hrun, hended, _, _, rfl, ?_, ⟨_, rfl⟩, hW, hsame.mono (by decide) (by decide)⟩⟩
  show own_Q_abI Z sb cz h0 n0 _ T5.heap _
  rw [e5]
  exact ⟨b3, k3, rfl, N5, K5, sz_b3, f5_1, f5_2, f5_3, f5_5, f5_4⟩
abbrev oF_sbI (m : MethodId) (pc : Nat) (a0 : Slot) (S : List Value) : JFrame := mkF m pc #[a0] S
theorem o671_0 : decode jdk_67_method_1_code 0 = .ok (.aload_n 0, 1) := by decide +kernel
theorem o671_1 : decode jdk_67_method_1_code 1 = .ok (.bipush 16, 2) := by decide +kernel
theorem o671_3 : decode jdk_67_method_1_code 3 = .ok (.invokespecial 1, 3) := by decide +kernel
theorem own_pd_28I29V : parseMethodDescriptor "(I)V" = some ⟨[.int], none⟩ := by decide +kernel
theorem o671_6 : decode jdk_67_method_1_code 6 = .ok (.return_, 1) := by decide +kernel
theorem own_ef_sbI (m : MethodId) (x0 : Addr) : entryFrame m #[(.ref x0)] 1 = mkF m 0 #[(oR x0)] [] := by first | (simp [entryFrame, mkF, argsToLocals, Value.category]; done) | rfl
def own_Q_sbI (Z : State) (sb : Addr) (cz : Int32) (h0 : Heap) (n0 : Nat) (v : Option Value) (h : Heap) (L : List Loc) : Prop := ∃ (bv : Addr) (kb : ClassId), v = none ∧ Fr n0 L ∧ Keep h0 h [sb] ∧ h0.size ≤ bv ∧ Fld Z h sb "java/lang/AbstractStringBuilder" "value" "[B" (.ref bv) ∧ Fld Z h sb "java/lang/AbstractStringBuilder" "coder" "B" (.int 0) ∧ Fld Z h sb "java/lang/AbstractStringBuilder" "count" "I" (.int 0) ∧ Arv Z h bv kb .byte (16 : Int32) [(.int 0), (.int 0), (.int 0), (.int 0), (.int 0), (.int 0), (.int 0), (.int 0), (.int 0), (.int 0), (.int 0), (.int 0), (.int 0), (.int 0), (.int 0), (.int 0)] (.int 0) ∧ Sta Z h "java/lang/String" "COMPACT_STRINGS" "Z" (.int cz)
theorem own_pn_java_lang_StringBuilder : plainName "java/lang/StringBuilder" = true := by first | (simp [plainName, overriddenIn]; done) | decide +kernel
set_option maxRecDepth 65536 in
set_option maxHeartbeats 40000000 in
theorem own_rm_sbI (l : Launch) (Z : State) (a0 : Array Value) (hw : ∀ d ∈ tables_1, d.before a0 Z = true) (ws : List Jvm.Cond) (sb : Addr) (cz : Int32) (h0 : Heap) (n0 : Nat) (Z0 : n0 ≤ h0.size) (Eb0 : Exa Z h0 sb "java/lang/StringBuilder") (Fbv : Fld Z h0 sb "java/lang/AbstractStringBuilder" "value" "[B" .null) (Fbc : Fld Z h0 sb "java/lang/AbstractStringBuilder" "coder" "B" (.int 0)) (Fbn : Fld Z h0 sb "java/lang/AbstractStringBuilder" "count" "I" (.int 0)) (g_sb : n0 ≤ sb) (Sc0 : Sta Z h0 "java/lang/String" "COMPACT_STRINGS" "Z" (.int cz)) (hcz : ¬ cz = (0 : Int32)) :
    MetFree l (⟨"java/lang/StringBuilder", "<init>", "()V"⟩ : MethodName) (head1 (Jvm.Cond.code (⟨"java/lang/StringBuilder", "<init>", "()V"⟩ : MethodName) jdk_67_method_1_code 1 none :: ws) ({ frames := 2, cells := 1, slots := 16, locals := 25 } : Room)) (fun a U => a = #[(.ref sb)] ∧ Z.Warmed39 U.vm ∧ U.heap = h0) (fun _ _ _ _ _ => True) (fun _ U o U' => ∃ v L, o = .returned v ∧ own_Q_sbI Z sb cz h0 n0 v U'.heap L ∧ FrameEnd U o U' L ({ frames := 2, cells := 1, slots := 16, locals := 25 } : Room).cells ({ frames := 2, cells := 1, slots := 16, locals := 25 } : Room).slots) := by
  refine MetFree.of_bodySF (plainFor_of_name own_pn_java_lang_StringBuilder) hisR ?_
  intro p e s m args below meth c s₁ Bd hml0 hP hKq_
  obtain ⟨rfl, hZ, hh⟩ := hP
  have hx := Bd.exec
  have hby := Bd.bytes
  have hml : c.maxLocals = 1 := hml0
  have hown : s.vm.findClass "java/lang/StringBuilder" = some m.cls := findClass_of_methodNamed Bd.named
  have hnm := (name_of_methodNamed Bd.named Bd.method).1
  have ow53 := hw _ (List.mem_of_getElem? (i := 53) rfl)
  have ow54 := hw _ (List.mem_of_getElem? (i := 54) rfl)
  have ow57 := hw _ (List.mem_of_getElem? (i := 57) rfl)
  have ow58 := hw _ (List.mem_of_getElem? (i := 58) rfl)
  have X0 : Stand p l e ({ frames := 2, cells := 1, slots := 16, locals := 25 } : Room) s m #[(.ref sb)] below meth c s₁ [] 0 0 := Stand.of_body Bd
  have e0 : s₁.heap = h0 := by rw [← hh, Bd.state]; rfl
  have N0 := Fr.nil n0
  have pre0 : ∀ t, Steps p.tables e below (s₁.setTop (mkF m 0 #[(oR sb)] [])) t → Steps p.tables e below (s₁.setTop (entryFrame m #[(.ref sb)] 1)) t := fun t k => castTop (own_ef_sbI m sb) k
  refine own_go pre0 ?_
  refine own_abs ?_
  intro Pf hPf
  refine own_go (A := oW p e below s₁ (oF_sbI m 3 (oR sb) [(.int 16), (.ref sb)])) (fun t k => by
    refine XS.aloadN X0.here hx rfl (hb hby o671_0) rfl rfl ?_
    show oW p e below s₁ (oF_sbI m 1 (oR sb) [(.ref sb)]) _
    refine XS.bipush X0.here hx rfl (hb hby o671_1) ?_
    exact k) ?_
  obtain ⟨_, _, ⟨T1, L1, k1, n1⟩, -, X1, ⟨Lc1, hQ1, l1, y1, z1⟩, st1⟩ := X0.specialBack hx (y := (⟨"java/lang/AbstractStringBuilder", "<init>", "(I)V"⟩ : MethodName)) rfl hown (mvT hZ ow53) (mvT hZ ow54) (mvT hZ ow58) (by decide) (backOf (W := 0) (own_rm_abI l Z a0 hw [] sb cz h0 n0 Z0 Eb0 Fbv Fbc Fbn g_sb Sc0 hcz) hZ ow58 ow57 (by decide) (by decide)) (g := (oF_sbI m 3 (oR sb) [(.int 16), (.ref sb)])) rfl (by rw [hml]; rfl) (Steps.refl _) (a := sb) (argsL := [(.int 16)]) (rest := []) (lenOf own_pd_28I29V rfl) rfl (by show 2 * 0 + _ ≤ _; exact Nat.le_of_eq rfl) (hb hby o671_3) (fun _ _ => ⟨rfl, e0, (by decide : 0 + 1 ≤ _), (by decide : 0 + 16 ≤ _)⟩)
  dsimp only [Pt.U, Pt.locs, Pt.cells, Pt.slots] at X1 l1 y1 z1 st1 hQ1
  subst l1 y1 z1
  obtain ⟨bv, kb, rfl, N1q, K1q, s_bv, p1_0, p1_1, p1_2, p1_3, p1_4⟩ := hQ1
  have N1 := Fr.app N0 N1q
  have g_bv : n0 ≤ bv := Nat.le_trans Z0 s_bv
  have sz_bv : h0.size ≤ bv := Nat.le_trans (Keep.refl h0 [sb]).1 s_bv
  have ne_sb_bv : sb ≠ bv := Nat.ne_of_lt (Nat.lt_of_lt_of_le Eb0.lt s_bv)
  have f1_0 : Exa Z T1.heap sb "java/lang/StringBuilder" := Eb0.keep K1q
  have Z1 : n0 ≤ T1.heap.size := Nat.le_trans Z0 K1q.1
  have K1 : Keep h0 T1.heap [sb] := (Keep.refl h0 [sb]).trans K1q (allS (Or.inl (List.mem_of_getElem? (i := 0) rfl)) all0)
  refine own_go (fun _ k => st1.trans k) ?_
  obtain ⟨fs, hr, hrun, hended, hW, hsame⟩ := X1.leave (v := none) (fun _ => rfl)
  refine ⟨_, _, X1.returnOut hx Bd.returns (hb hby o671_6) hr, hPf _ _ ⟨hrun, hended, _, _, rfl, ?_, ⟨_, rfl⟩, hW, hsame.mono (by decide) (by decide)⟩⟩
  show own_Q_sbI Z sb cz h0 n0 _ T1.heap _
  exact ⟨bv, kb, rfl, N1, K1, sz_bv, p1_0, p1_1, p1_2, p1_3, p1_4⟩
abbrev oF_lenA (m : MethodId) (pc : Nat) (a0 : Slot) (S : List Value) : JFrame := mkF m pc #[a0] S
theorem own_ef_lenA (m : MethodId) (x0 : Addr) : entryFrame m #[(.ref x0)] 1 = mkF m 0 #[(oR x0)] [] := by first | (simp [entryFrame, mkF, argsToLocals, Value.category]; done) | rfl
def own_Q_lenA (Z : State) (ps : Addr) (cz : Int32) (pb : Addr) (kpb : ClassId) (w0 w1 w2 w3 w4 : Int32) (h0 : Heap) (n0 : Nat) (v : Option Value) (h : Heap) (L : List Loc) : Prop := v = some (.int 5) ∧ Fr n0 L ∧ h = h0
set_option maxRecDepth 65536 in
set_option maxHeartbeats 40000000 in
theorem own_rm_lenA (l : Launch) (Z : State) (a0 : Array Value) (hw : ∀ d ∈ tables_1, d.before a0 Z = true) (ws : List Jvm.Cond) (ps : Addr) (cz : Int32) (pb : Addr) (kpb : ClassId) (w0 w1 w2 w3 w4 : Int32) (h0 : Heap) (n0 : Nat) (Z0 : n0 ≤ h0.size) (Sc0 : Sta Z h0 "java/lang/String" "COMPACT_STRINGS" "Z" (.int cz)) (hcz : ¬ cz = (0 : Int32)) (Ex0 : Exa Z h0 ps "java/lang/String") (Fc0 : Fld Z h0 ps "java/lang/String" "coder" "B" (.int 0)) (Fv0 : Fld Z h0 ps "java/lang/String" "value" "[B" (.ref pb)) (Vb0 : Arv Z h0 pb kpb .byte (5 : Int32) [(.int w0), (.int w1), (.int w2), (.int w3), (.int w4)] (.int 0)) :
    MetFree l (⟨"java/lang/String", "length", "()I"⟩ : MethodName) (head1 (Jvm.Cond.code (⟨"java/lang/String", "length", "()I"⟩ : MethodName) jdk_42_method_54_code 1 (some .int) :: ws) ({ frames := 1, cells := 0, slots := 0, locals := 13 } : Room)) (fun a U => a = #[(.ref ps)] ∧ Z.Warmed39 U.vm ∧ U.heap = h0) (fun _ _ _ _ _ => True) (fun _ U o U' => ∃ v L, o = .returned v ∧ own_Q_lenA Z ps cz pb kpb w0 w1 w2 w3 w4 h0 n0 v U'.heap L ∧ FrameEnd U o U' L ({ frames := 1, cells := 0, slots := 0, locals := 13 } : Room).cells ({ frames := 1, cells := 0, slots := 0, locals := 13 } : Room).slots) := by
  refine MetFree.of_bodySF (plainFor_of_name own_pn_java_lang_String) hisR ?_
  intro p e s m args below meth c s₁ Bd hml0 hP hKq_
  obtain ⟨rfl, hZ, hh⟩ := hP
  have hx := Bd.exec
  have hby := Bd.bytes
  have hml : c.maxLocals = 1 := hml0
  have hown : s.vm.findClass "java/lang/String" = some m.cls := findClass_of_methodNamed Bd.named
  have hnm := (name_of_methodNamed Bd.named Bd.method).1
  have ow13 := hw _ (List.mem_of_getElem? (i := 13) rfl)
  have ow15 := hw _ (List.mem_of_getElem? (i := 15) rfl)
  have ow17 := hw _ (List.mem_of_getElem? (i := 17) rfl)
  have ow18 := hw _ (List.mem_of_getElem? (i := 18) rfl)
  have ow19 := hw _ (List.mem_of_getElem? (i := 19) rfl)
  have ow20 := hw _ (List.mem_of_getElem? (i := 20) rfl)
  have ow21 := hw _ (List.mem_of_getElem? (i := 21) rfl)
  have X0 : Stand p l e ({ frames := 1, cells := 0, slots := 0, locals := 13 } : Room) s m #[(.ref ps)] below meth c s₁ [] 0 0 := Stand.of_body Bd
  have e0 : s₁.heap = h0 := by rw [← hh, Bd.state]; rfl
  have N0 := Fr.nil n0
  have pre0 : ∀ t, Steps p.tables e below (s₁.setTop (mkF m 0 #[(oR ps)] [])) t → Steps p.tables e below (s₁.setTop (entryFrame m #[(.ref ps)] 1)) t := fun t k => castTop (own_ef_lenA m ps) k
  refine own_go pre0 ?_
  refine own_abs ?_
  intro Pf hPf
  refine own_go (A := oW p e below s₁ (oF_lenA m 1 (oR ps) [(.ref ps)])) (fun t k => by
    refine XS.aloadN X0.here hx rfl (hb hby o254_0) rfl rfl ?_
    exact k) ?_
  obtain ⟨T1, X1, e1, st1⟩ := getF X0 hx hZ hown (host := "") (Or.inl ow15) Via.refl e0 Fv0 (g := (oF_lenA m 1 (oR ps) [(.ref ps)])) rfl rfl (hb hby o254_1)
  refine own_go st1 ?_
  refine own_go (A := oW p e below T1 (oF_lenA m 6 (oR ps) [(.ref ps), (.int 5)])) (fun t k => by
    refine own_len2 X1 hx hZ e1 Vb0 (g := (oF_lenA m 4 (oR ps) [(.ref pb)])) rfl rfl (hb hby o254_4) _ ?_
    show oW p e below T1 (oF_lenA m 5 (oR ps) [(.int 5)]) _
    refine XS.aloadN X1.here hx rfl (hb hby o254_5) rfl rfl ?_
    exact k) ?_
  obtain ⟨cq2, kq2, q2a, q2b, q2c⟩ := isOf hZ e1 Ex0
  obtain ⟨_, _, ⟨T2, L2, k2, n2⟩, -, X2, ⟨Lc2, hQ2, l2, y2, z2⟩, st2⟩ := X1.virtualBack hx (y := (⟨"java/lang/String", "coder", "()B"⟩ : MethodName)) (z := (⟨"java/lang/String", "coder", "()B"⟩ : MethodName)) hown (mvT hZ ow17) (mvT hZ ow18) (notFace_of_selects (args := #[]) (mvT hZ ow20)) (mvT hZ ow20) (mvT hZ ow19) (by decide) (backOf (W := 1) (own_rm_coder l Z a0 hw [] ps cz h0 n0 Z0 Sc0 hcz Fc0) hZ ow21 ow13 (by decide) (by decide)) q2a q2c (g := (oF_lenA m 6 (oR ps) [(.ref ps), (.int 5)])) rfl (by rw [hml]; rfl) (Steps.refl _) (argsL := []) (rest := [(.int 5)]) (lenOf own_pd_2829B rfl) rfl (by show 2 * 0 + _ ≤ _; exact Nat.le_of_eq rfl) (hb hby o254_6) (fun _ _ => ⟨rfl, e1, (by decide : 0 + 0 ≤ _), (by decide : 0 + 0 ≤ _)⟩)
  dsimp only [Pt.U, Pt.locs, Pt.cells, Pt.slots] at X2 l2 y2 z2 st2 hQ2
  subst l2 y2 z2
  obtain ⟨rfl, N2q, eh2⟩ := hQ2
  have N2 := Fr.app N0 N2q
  refine own_go (fun _ k => st2.trans k) ?_
  refine own_go (A := oW p e below T2 (oF_lenA m 10 (oR ps) [(.int 5)])) (fun t k => by
    refine XS.ishr X2.here hx rfl (hb hby o254_9) rfl ?_
    exact k) ?_
  obtain ⟨fs, hr, hrun, hended, hW, hsame⟩ := X2.leave (v := some (.int 5)) (fun h => by rw [Bd.returns] at h; cases h)
  refine ⟨_, _, retOut X2 hx Bd.returns rfl (Or.inl ⟨rfl, Or.inl rfl, _, rfl⟩) (hb hby o254_10) hr, hPf _ _ ⟨hrun, hended, _, _, rfl, ?_, ⟨_, rfl⟩, hW, hsame.mono (by decide) (by decide)⟩⟩
  show own_Q_lenA Z ps cz pb kpb w0 w1 w2 w3 w4 h0 n0 _ T2.heap _
  rw [eh2]
  exact ⟨rfl, N2, rfl⟩
abbrev oF_getB (m : MethodId) (pc : Nat) (a0 a1 a2 a3 : Slot) (S : List Value) : JFrame := mkF m pc #[a0, a1, a2, a3] S
theorem o147_0 : decode jdk_42_method_147_code 0 = .ok (.aload_n 0, 1) := by decide +kernel
theorem o147_1 : decode jdk_42_method_147_code 1 = .ok (.invokevirtual 335, 3) := by decide +kernel
theorem o147_4 : decode jdk_42_method_147_code 4 = .ok (.iload_n 3, 1) := by decide +kernel
theorem o147_5 : decode jdk_42_method_147_code 5 = .ok (.if_icmp .ne 23, 3) := by decide +kernel
theorem o147_8 : decode jdk_42_method_147_code 8 = .ok (.aload_n 0, 1) := by decide +kernel
theorem o147_9 : decode jdk_42_method_147_code 9 = .ok (.getfield 9, 3) := by decide +kernel
theorem o147_12 : decode jdk_42_method_147_code 12 = .ok (.iconst 0, 1) := by decide +kernel
theorem o147_13 : decode jdk_42_method_147_code 13 = .ok (.aload_n 1, 1) := by decide +kernel
theorem o147_14 : decode jdk_42_method_147_code 14 = .ok (.iload_n 2, 1) := by decide +kernel
theorem o147_15 : decode jdk_42_method_147_code 15 = .ok (.iload_n 3, 1) := by decide +kernel
theorem o147_16 : decode jdk_42_method_147_code 16 = .ok (.ishl, 1) := by decide +kernel
theorem o147_17 : decode jdk_42_method_147_code 17 = .ok (.aload_n 0, 1) := by decide +kernel
theorem o147_18 : decode jdk_42_method_147_code 18 = .ok (.getfield 9, 3) := by decide +kernel
theorem o147_21 : decode jdk_42_method_147_code 21 = .ok (.arraylength, 1) := by decide +kernel
theorem o147_22 : decode jdk_42_method_147_code 22 = .ok (.invokestatic 212, 3) := by decide +kernel
theorem o147_25 : decode jdk_42_method_147_code 25 = .ok (.goto 18, 3) := by decide +kernel
theorem o147_43 : decode jdk_42_method_147_code 43 = .ok (.return_, 1) := by decide +kernel
theorem own_ef_getB (m : MethodId) (x0 : Addr) (x1 : Addr) (x2 : Int32) (x3 : Int32) : entryFrame m #[(.ref x0), (.ref x1), (.int x2), (.int x3)] 4 = mkF m 0 #[(oR x0), (oR x1), (oi x2), (oi x3)] [] := by first | (simp [entryFrame, mkF, argsToLocals, Value.category]; done) | rfl
def own_Q_getB (Z : State) (ps : Addr) (bv : Addr) (cz : Int32) (pb : Addr) (kpb kb : ClassId) (w0 w1 w2 w3 w4 : Int32) (h0 : Heap) (n0 : Nat) (v : Option Value) (h : Heap) (L : List Loc) : Prop := v = none ∧ Fr n0 L ∧ Keep h0 h [bv] ∧ Arv Z h bv kb .byte (16 : Int32) [(.int w0), (.int w1), (.int w2), (.int w3), (.int w4), (.int 0), (.int 0), (.int 0), (.int 0), (.int 0), (.int 0), (.int 0), (.int 0), (.int 0), (.int 0), (.int 0)] (.int 0) ∧ Sta Z h "java/lang/String" "COMPACT_STRINGS" "Z" (.int cz)
set_option maxRecDepth 65536 in
set_option maxHeartbeats 40000000 in
theorem own_rm_getB (l : Launch) (Z : State) (a0 : Array Value) (hw : ∀ d ∈ tables_1, d.before a0 Z = true) (ws : List Jvm.Cond) (ps : Addr) (bv : Addr) (cz : Int32) (pb : Addr) (kpb kb : ClassId) (w0 w1 w2 w3 w4 : Int32) (h0 : Heap) (n0 : Nat) (Z0 : n0 ≤ h0.size) (hnd : ([ps, pb, bv] : List Addr).Nodup) (g_bv : n0 ≤ bv) (Sc0 : Sta Z h0 "java/lang/String" "COMPACT_STRINGS" "Z" (.int cz)) (hcz : ¬ cz = (0 : Int32)) (Ex0 : Exa Z h0 ps "java/lang/String") (Fc0 : Fld Z h0 ps "java/lang/String" "coder" "B" (.int 0)) (Fv0 : Fld Z h0 ps "java/lang/String" "value" "[B" (.ref pb)) (Vb0 : Arv Z h0 pb kpb .byte (5 : Int32) [(.int w0), (.int w1), (.int w2), (.int w3), (.int w4)] (.int 0)) (Vv0 : Arv Z h0 bv kb .byte (16 : Int32) [(.int 0), (.int 0), (.int 0), (.int 0), (.int 0), (.int 0), (.int 0), (.int 0), (.int 0), (.int 0), (.int 0), (.int 0), (.int 0), (.int 0), (.int 0), (.int 0)] (.int 0)) :
    MetFree l (⟨"java/lang/String", "getBytes", "([BIB)V"⟩ : MethodName) (head1 (Jvm.Cond.code (⟨"java/lang/String", "getBytes", "([BIB)V"⟩ : MethodName) jdk_42_method_147_code 4 none :: ws) ({ frames := 1, cells := 0, slots := 0, locals := 64 } : Room)) (fun a U => a = #[(.ref ps), (.ref bv), (.int 0), (.int 0)] ∧ Z.Warmed39 U.vm ∧ U.heap = h0) (fun _ _ _ _ _ => True) (fun _ U o U' => ∃ v L, o = .returned v ∧ own_Q_getB Z ps bv cz pb kpb kb w0 w1 w2 w3 w4 h0 n0 v U'.heap L ∧ FrameEnd U o U' L ({ frames := 1, cells := 0, slots := 0, locals := 64 } : Room).cells ({ frames := 1, cells := 0, slots := 0, locals := 64 } : Room).slots) := by
  refine MetFree.of_bodySF (plainFor_of_name own_pn_java_lang_String) hisR ?_
  intro p e s m args below meth c s₁ Bd hml0 hP hKq_
  obtain ⟨rfl, hZ, hh⟩ := hP
  have hx := Bd.exec
  have hby := Bd.bytes
  have hml : c.maxLocals = 4 := hml0
  have hown : s.vm.findClass "java/lang/String" = some m.cls := findClass_of_methodNamed Bd.named
  have hnm := (name_of_methodNamed Bd.named Bd.method).1
  have ow13 := hw _ (List.mem_of_getElem? (i := 13) rfl)
  have ow15 := hw _ (List.mem_of_getElem? (i := 15) rfl)
  have ow17 := hw _ (List.mem_of_getElem? (i := 17) rfl)
  have ow18 := hw _ (List.mem_of_getElem? (i := 18) rfl)
  have ow19 := hw _ (List.mem_of_getElem? (i := 19) rfl)
  have ow20 := hw _ (List.mem_of_getElem? (i := 20) rfl)
  have ow21 := hw _ (List.mem_of_getElem? (i := 21) rfl)
  have ow106 := hw _ (List.mem_of_getElem? (i := 106) rfl)
  have ow107 := hw _ (List.mem_of_getElem? (i := 107) rfl)
  have ow108 := hw _ (List.mem_of_getElem? (i := 108) rfl)
  have ow109 := hw _ (List.mem_of_getElem? (i := 109) rfl)
  have X0 : Stand p l e ({ frames := 1, cells := 0, slots := 0, locals := 64 } : Room) s m #[(.ref ps), (.ref bv), (.int 0), (.int 0)] below meth c s₁ [] 0 0 := Stand.of_body Bd
  have e0 : s₁.heap = h0 := by rw [← hh, Bd.state]; rfl
  have N0 := Fr.nil n0
  have pre0 : ∀ t, Steps p.tables e below (s₁.setTop (mkF m 0 #[(oR ps), (oR bv), (oi 0), (oi 0)] [])) t → Steps p.tables e below (s₁.setTop (entryFrame m #[(.ref ps), (.ref bv), (.int 0), (.int 0)] 4)) t := fun t k => castTop (own_ef_getB m ps bv (0 : Int32) (0 : Int32)) k
  refine own_go pre0 ?_
  refine own_abs ?_
  intro Pf hPf
  have nn_pb : pb ∉ ([bv] : List Addr) := (ninS (own_nd hnd (i := 1) (j := 2) rfl rfl (by decide)) nin0)
  have nn_ps : ps ∉ ([bv] : List Addr) := (ninS (own_nd hnd (i := 0) (j := 2) rfl rfl (by decide)) nin0)
  refine own_go (A := oW p e below s₁ (oF_getB m 1 (oR ps) (oR bv) (oi 0) (oi 0) [(.ref ps)])) (fun t k => by
    refine XS.aloadN X0.here hx rfl (hb hby o147_0) rfl rfl ?_
    exact k) ?_
  obtain ⟨cq1, kq1, q1a, q1b, q1c⟩ := isOf hZ e0 Ex0
  obtain ⟨_, _, ⟨T1, L1, k1, n1⟩, -, X1, ⟨Lc1, hQ1, l1, y1, z1⟩, st1⟩ := X0.virtualBack hx (y := (⟨"java/lang/String", "coder", "()B"⟩ : MethodName)) (z := (⟨"java/lang/String", "coder", "()B"⟩ : MethodName)) hown (mvT hZ ow17) (mvT hZ ow18) (notFace_of_selects (args := #[]) (mvT hZ ow20)) (mvT hZ ow20) (mvT hZ ow19) (by decide) (backOf (W := 0) (own_rm_coder l Z a0 hw [] ps cz h0 n0 Z0 Sc0 hcz Fc0) hZ ow21 ow13 (by decide) (by decide)) q1a q1c (g := (oF_getB m 1 (oR ps) (oR bv) (oi 0) (oi 0) [(.ref ps)])) rfl (by rw [hml]; rfl) (Steps.refl _) (argsL := []) (rest := []) (lenOf own_pd_2829B rfl) rfl (by show 2 * 0 + _ ≤ _; exact Nat.le_of_eq rfl) (hb hby o147_1) (fun _ _ => ⟨rfl, e0, (by decide : 0 + 0 ≤ _), (by decide : 0 + 0 ≤ _)⟩)
  dsimp only [Pt.U, Pt.locs, Pt.cells, Pt.slots] at X1 l1 y1 z1 st1 hQ1
  subst l1 y1 z1
  obtain ⟨rfl, N1q, eh1⟩ := hQ1
  have N1 := Fr.app N0 N1q
  refine own_go (fun _ k => st1.trans k) ?_
  refine own_go (A := oW p e below T1 (oF_getB m 9 (oR ps) (oR bv) (oi 0) (oi 0) [(.ref ps)])) (fun t k => by
    refine XS.iloadN X1.here hx rfl (hb hby o147_4) rfl ?_
    show oW p e below T1 (oF_getB m 5 (oR ps) (oR bv) (oi 0) (oi 0) [(.int 0), (.int 0)]) _
    refine XS.icmpNo X1.here hx rfl (hb hby o147_5) rfl (teq (by decide : (0 : Int32) = (0 : Int32))).2 ?_
    show oW p e below T1 (oF_getB m 8 (oR ps) (oR bv) (oi 0) (oi 0) []) _
    refine XS.aloadN X1.here hx rfl (hb hby o147_8) rfl rfl ?_
    exact k) ?_
  obtain ⟨T2, X2, e2, st2⟩ := getF X1 hx hZ hown (host := "") (Or.inl ow15) Via.refl eh1 Fv0 (g := (oF_getB m 9 (oR ps) (oR bv) (oi 0) (oi 0) [(.ref ps)])) rfl rfl (hb hby o147_9)
  refine own_go st2 ?_
  refine own_go (A := oW p e below T2 (oF_getB m 18 (oR ps) (oR bv) (oi 0) (oi 0) [(.ref ps), (.int 0), (.ref bv), (.int 0), (.ref pb)])) (fun t k => by
    refine XS.iconst X2.here hx rfl (hb hby o147_12) ?_
    show oW p e below T2 (oF_getB m 13 (oR ps) (oR bv) (oi 0) (oi 0) [(.int 0), (.ref pb)]) _
    refine XS.aloadN X2.here hx rfl (hb hby o147_13) rfl rfl ?_
    show oW p e below T2 (oF_getB m 14 (oR ps) (oR bv) (oi 0) (oi 0) [(.ref bv), (.int 0), (.ref pb)]) _
    refine XS.iloadN X2.here hx rfl (hb hby o147_14) rfl ?_
    show oW p e below T2 (oF_getB m 15 (oR ps) (oR bv) (oi 0) (oi 0) [(.int 0), (.ref bv), (.int 0), (.ref pb)]) _
    refine XS.iloadN X2.here hx rfl (hb hby o147_15) rfl ?_
    show oW p e below T2 (oF_getB m 16 (oR ps) (oR bv) (oi 0) (oi 0) [(.int 0), (.int 0), (.ref bv), (.int 0), (.ref pb)]) _
    refine XS.ishl X2.here hx rfl (hb hby o147_16) rfl ?_
    show oW p e below T2 (oF_getB m 17 (oR ps) (oR bv) (oi 0) (oi 0) [(.int 0), (.ref bv), (.int 0), (.ref pb)]) _
    refine XS.aloadN X2.here hx rfl (hb hby o147_17) rfl rfl ?_
    exact k) ?_
  obtain ⟨T3, X3, e3, st3⟩ := getF X2 hx hZ hown (host := "") (Or.inl ow15) Via.refl e2 Fv0 (g := (oF_getB m 18 (oR ps) (oR bv) (oi 0) (oi 0) [(.ref ps), (.int 0), (.ref bv), (.int 0), (.ref pb)])) rfl rfl (hb hby o147_18)
  refine own_go st3 ?_
  refine own_go (A := oW p e below T3 (oF_getB m 22 (oR ps) (oR bv) (oi 0) (oi 0) [(.int 5), (.int 0), (.ref bv), (.int 0), (.ref pb)])) (fun t k => by
    refine own_len2 X3 hx hZ e3 Vb0 (g := (oF_getB m 21 (oR ps) (oR bv) (oi 0) (oi 0) [(.ref pb), (.int 0), (.ref bv), (.int 0), (.ref pb)])) rfl rfl (hb hby o147_21) _ ?_
    exact k) ?_
  obtain ⟨T4, h4, L4, X4, e4, N4, Kc4, A4, st4⟩ := cpA X3 hx hZ hown ow106 ow109 ow107 ow108 e3 Vb0 Vv0 (us := [(.int w0), (.int w1), (.int w2), (.int w3), (.int w4)]) (Or.inl ⟨rfl, rfl⟩) (by decide) (by decide) (by decide) (by decide) (by decide) rfl (by decide) N1 g_bv (g := (oF_getB m 22 (oR ps) (oR bv) (oi 0) (oi 0) [(.int 5), (.int 0), (.ref bv), (.int 0), (.ref pb)])) rfl (by rw [hml]; rfl) rfl (hb hby o147_22) (by decide) (W := 0) (by show 2 * 0 + _ ≤ _; exact Nat.le_of_eq rfl) (by decide)
  refine own_go st4 ?_
  have V4 : Arv Z h4 bv kb .byte (16 : Int32) [(.int w0), (.int w1), (.int w2), (.int w3), (.int w4), (.int 0), (.int 0), (.int 0), (.int 0), (.int 0), (.int 0), (.int 0), (.int 0), (.int 0), (.int 0), (.int 0)] (.int 0) := A4
  have f4_0 : Sta Z h4 "java/lang/String" "COMPACT_STRINGS" "Z" (.int cz) := own_stak Sc0 Kc4 Vv0
  have f4_5 : Arv Z h4 bv kb .byte (16 : Int32) [(.int w0), (.int w1), (.int w2), (.int w3), (.int w4), (.int 0), (.int 0), (.int 0), (.int 0), (.int 0), (.int 0), (.int 0), (.int 0), (.int 0), (.int 0), (.int 0)] (.int 0) := V4
  have Z4 : n0 ≤ h4.size := Nat.le_trans Z0 Kc4.1
  have K4 : Keep h0 h4 [bv] := (Keep.refl h0 [bv]).trans Kc4 (allS (Or.inl (List.mem_of_getElem? (i := 0) rfl)) all0)
  refine own_go (A := oW p e below T4 (oF_getB m 43 (oR ps) (oR bv) (oi 0) (oi 0) [])) (fun t k => by
    refine XS.goto X4.here hx rfl (pc0 := 25) (pc' := 43) rfl (hb hby o147_25) (by decide) (by decide) ?_
    exact k) ?_
  obtain ⟨fs, hr, hrun, hended, hW, hsame⟩ := X4.leave (v := none) (fun _ => rfl)
  refine ⟨_, _, X4.returnOut hx Bd.returns (hb hby o147_43) hr, hPf _ _ ⟨hrun, hended, _, _, rfl, ?_, ⟨_, rfl⟩, hW, hsame.mono (by decide) (by decide)⟩⟩
  show own_Q_getB Z ps bv cz pb kpb kb w0 w1 w2 w3 w4 h0 n0 _ T4.heap _
  rw [e4]
  exact ⟨rfl, N4, K4, f4_5, f4_0⟩
abbrev oF_infl (m : MethodId) (pc : Nat) (a0 a1 : Slot) (S : List Value) : JFrame := mkF m pc #[a0, a1] S
theorem o871_0 : decode jdk_68_method_71_code 0 = .ok (.getstatic 18, 3) := by decide +kernel
theorem o871_3 : decode jdk_68_method_71_code 3 = .ok (.ifCond .eq 18, 3) := by decide +kernel
theorem o871_6 : decode jdk_68_method_71_code 6 = .ok (.aload_n 0, 1) := by decide +kernel
theorem o871_7 : decode jdk_68_method_71_code 7 = .ok (.getfield 22, 3) := by decide +kernel
theorem o871_10 : decode jdk_68_method_71_code 10 = .ok (.aload_n 1, 1) := by decide +kernel
theorem o871_11 : decode jdk_68_method_71_code 11 = .ok (.invokevirtual 40, 3) := by decide +kernel
theorem o871_14 : decode jdk_68_method_71_code 14 = .ok (.if_icmp .eq 7, 3) := by decide +kernel
theorem o871_21 : decode jdk_68_method_71_code 21 = .ok (.return_, 1) := by decide +kernel
theorem own_ef_infl (m : MethodId) (x0 : Addr) (x1 : Addr) : entryFrame m #[(.ref x0), (.ref x1)] 2 = mkF m 0 #[(oR x0), (oR x1)] [] := by first | (simp [entryFrame, mkF, argsToLocals, Value.category]; done) | rfl
def own_Q_infl (Z : State) (sb : Addr) (ps : Addr) (cz : Int32) (h0 : Heap) (n0 : Nat) (v : Option Value) (h : Heap) (L : List Loc) : Prop := v = none ∧ Fr n0 L ∧ h = h0
set_option maxRecDepth 65536 in
set_option maxHeartbeats 40000000 in
theorem own_rm_infl (l : Launch) (Z : State) (a0 : Array Value) (hw : ∀ d ∈ tables_1, d.before a0 Z = true) (ws : List Jvm.Cond) (sb : Addr) (ps : Addr) (cz : Int32) (h0 : Heap) (n0 : Nat) (Z0 : n0 ≤ h0.size) (Sc0 : Sta Z h0 "java/lang/String" "COMPACT_STRINGS" "Z" (.int cz)) (hcz : ¬ cz = (0 : Int32)) (Eb0 : Exa Z h0 sb "java/lang/StringBuilder") (Fbc : Fld Z h0 sb "java/lang/AbstractStringBuilder" "coder" "B" (.int 0)) (Ex0 : Exa Z h0 ps "java/lang/String") (Fc0 : Fld Z h0 ps "java/lang/String" "coder" "B" (.int 0)) :
    MetFree l (⟨"java/lang/AbstractStringBuilder", "inflateIfNeededFor", "(Ljava/lang/String;)V"⟩ : MethodName) (head1 (Jvm.Cond.code (⟨"java/lang/AbstractStringBuilder", "inflateIfNeededFor", "(Ljava/lang/String;)V"⟩ : MethodName) jdk_68_method_71_code 2 none :: ws) ({ frames := 1, cells := 0, slots := 0, locals := 13 } : Room)) (fun a U => a = #[(.ref sb), (.ref ps)] ∧ Z.Warmed39 U.vm ∧ U.heap = h0) (fun _ _ _ _ _ => True) (fun _ U o U' => ∃ v L, o = .returned v ∧ own_Q_infl Z sb ps cz h0 n0 v U'.heap L ∧ FrameEnd U o U' L ({ frames := 1, cells := 0, slots := 0, locals := 13 } : Room).cells ({ frames := 1, cells := 0, slots := 0, locals := 13 } : Room).slots) := by
  refine MetFree.of_bodySF (plainFor_of_name own_pn_java_lang_AbstractStringBuilder) hisR ?_
  intro p e s m args below meth c s₁ Bd hml0 hP hKq_
  obtain ⟨rfl, hZ, hh⟩ := hP
  have hx := Bd.exec
  have hby := Bd.bytes
  have hml : c.maxLocals = 2 := hml0
  have hown : s.vm.findClass "java/lang/AbstractStringBuilder" = some m.cls := findClass_of_methodNamed Bd.named
  have hnm := (name_of_methodNamed Bd.named Bd.method).1
  have ow13 := hw _ (List.mem_of_getElem? (i := 13) rfl)
  have ow18 := hw _ (List.mem_of_getElem? (i := 18) rfl)
  have ow19 := hw _ (List.mem_of_getElem? (i := 19) rfl)
  have ow20 := hw _ (List.mem_of_getElem? (i := 20) rfl)
  have ow21 := hw _ (List.mem_of_getElem? (i := 21) rfl)
  have ow62 := hw _ (List.mem_of_getElem? (i := 62) rfl)
  have ow66 := hw _ (List.mem_of_getElem? (i := 66) rfl)
  have ow100 := hw _ (List.mem_of_getElem? (i := 100) rfl)
  have X0 : Stand p l e ({ frames := 1, cells := 0, slots := 0, locals := 13 } : Room) s m #[(.ref sb), (.ref ps)] below meth c s₁ [] 0 0 := Stand.of_body Bd
  have e0 : s₁.heap = h0 := by rw [← hh, Bd.state]; rfl
  have N0 := Fr.nil n0
  have pre0 : ∀ t, Steps p.tables e below (s₁.setTop (mkF m 0 #[(oR sb), (oR ps)] [])) t → Steps p.tables e below (s₁.setTop (entryFrame m #[(.ref sb), (.ref ps)] 2)) t := fun t k => castTop (own_ef_infl m sb ps) k
  refine own_go pre0 ?_
  refine own_abs ?_
  intro Pf hPf
  obtain ⟨T1, X1, e1, st1⟩ := getS2 X0 hx hZ hown (host := "") (Or.inl ow62) Via.refl e0 Sc0 (g := (oF_infl m 0 (oR sb) (oR ps) [])) rfl (hb hby o871_0)
  refine own_go st1 ?_
  refine own_go (A := oW p e below T1 (oF_infl m 7 (oR sb) (oR ps) [(.ref sb)])) (fun t k => by
    refine XS.ifNo X1.here hx rfl (hb hby o871_3) rfl ((if0 _ _).trans (feq hcz).1) ?_
    show oW p e below T1 (oF_infl m 6 (oR sb) (oR ps) []) _
    refine XS.aloadN X1.here hx rfl (hb hby o871_6) rfl rfl ?_
    exact k) ?_
  obtain ⟨T2, X2, e2, st2⟩ := getF X1 hx hZ hown (host := "") (Or.inl ow66) Via.refl e1 Fbc (g := (oF_infl m 7 (oR sb) (oR ps) [(.ref sb)])) rfl rfl (hb hby o871_7)
  refine own_go st2 ?_
  refine own_go (A := oW p e below T2 (oF_infl m 11 (oR sb) (oR ps) [(.ref ps), (.int 0)])) (fun t k => by
    refine XS.aloadN X2.here hx rfl (hb hby o871_10) rfl rfl ?_
    exact k) ?_
  obtain ⟨cq3, kq3, q3a, q3b, q3c⟩ := isOf hZ e2 Ex0
  obtain ⟨_, _, ⟨T3, L3, k3, n3⟩, -, X3, ⟨Lc3, hQ3, l3, y3, z3⟩, st3⟩ := X2.virtualBack hx (y := (⟨"java/lang/String", "coder", "()B"⟩ : MethodName)) (z := (⟨"java/lang/String", "coder", "()B"⟩ : MethodName)) hown (mvT hZ ow100) (mvT hZ ow18) (notFace_of_selects (args := #[]) (mvT hZ ow20)) (mvT hZ ow20) (mvT hZ ow19) (by decide) (backOf (W := 1) (own_rm_coder l Z a0 hw [] ps cz h0 n0 Z0 Sc0 hcz Fc0) hZ ow21 ow13 (by decide) (by decide)) q3a q3c (g := (oF_infl m 11 (oR sb) (oR ps) [(.ref ps), (.int 0)])) rfl (by rw [hml]; rfl) (Steps.refl _) (argsL := []) (rest := [(.int 0)]) (lenOf own_pd_2829B rfl) rfl (by show 2 * 0 + _ ≤ _; exact Nat.le_of_eq rfl) (hb hby o871_11) (fun _ _ => ⟨rfl, e2, (by decide : 0 + 0 ≤ _), (by decide : 0 + 0 ≤ _)⟩)
  dsimp only [Pt.U, Pt.locs, Pt.cells, Pt.slots] at X3 l3 y3 z3 st3 hQ3
  subst l3 y3 z3
  obtain ⟨rfl, N3q, eh3⟩ := hQ3
  have N3 := Fr.app N0 N3q
  refine own_go (fun _ k => st3.trans k) ?_
  refine own_go (A := oW p e below T3 (oF_infl m 21 (oR sb) (oR ps) [])) (fun t k => by
    refine XS.icmpYes X3.here hx rfl (pc0 := 14) (pc' := 21) rfl (hb hby o871_14) rfl (teq (by decide : (0 : Int32) = (0 : Int32))).1 (by decide) (by decide) ?_
    exact k) ?_
  obtain ⟨fs, hr, hrun, hended, hW, hsame⟩ := X3.leave (v := none) (fun _ => rfl)
  refine ⟨_, _, X3.returnOut hx Bd.returns (hb hby o871_21) hr, hPf _ _ ⟨hrun, hended, _, _, rfl, ?_, ⟨_, rfl⟩, hW, hsame.mono (by decide) (by decide)⟩⟩
  show own_Q_infl Z sb ps cz h0 n0 _ T3.heap _
  rw [eh3]
  exact ⟨rfl, N3, rfl⟩
abbrev oF_putS (m : MethodId) (pc : Nat) (a0 a1 a2 : Slot) (S : List Value) : JFrame := mkF m pc #[a0, a1, a2] S
theorem o873_0 : decode jdk_68_method_73_code 0 = .ok (.aload_n 0, 1) := by decide +kernel
theorem o873_1 : decode jdk_68_method_73_code 1 = .ok (.aload_n 2, 1) := by decide +kernel
theorem o873_2 : decode jdk_68_method_73_code 2 = .ok (.invokevirtual 397, 3) := by decide +kernel
theorem own_pd_28Ljava2flang2fString3b29V : parseMethodDescriptor "(Ljava/lang/String;)V" = some ⟨[(.object "java/lang/String")], none⟩ := by decide +kernel
theorem o873_5 : decode jdk_68_method_73_code 5 = .ok (.aload_n 2, 1) := by decide +kernel
theorem o873_6 : decode jdk_68_method_73_code 6 = .ok (.aload_n 0, 1) := by decide +kernel
theorem o873_7 : decode jdk_68_method_73_code 7 = .ok (.getfield 15, 3) := by decide +kernel
theorem o873_10 : decode jdk_68_method_73_code 10 = .ok (.iload_n 1, 1) := by decide +kernel
theorem o873_11 : decode jdk_68_method_73_code 11 = .ok (.aload_n 0, 1) := by decide +kernel
theorem o873_12 : decode jdk_68_method_73_code 12 = .ok (.getfield 22, 3) := by decide +kernel
theorem o873_15 : decode jdk_68_method_73_code 15 = .ok (.invokevirtual 399, 3) := by decide +kernel
theorem own_pd_285bBIB29V : parseMethodDescriptor "([BIB)V" = some ⟨[(.array .byte), .int, .byte], none⟩ := by decide +kernel
theorem o873_18 : decode jdk_68_method_73_code 18 = .ok (.return_, 1) := by decide +kernel
theorem own_ef_putS (m : MethodId) (x0 : Addr) (x1 : Int32) (x2 : Addr) : entryFrame m #[(.ref x0), (.int x1), (.ref x2)] 3 = mkF m 0 #[(oR x0), (oi x1), (oR x2)] [] := by first | (simp [entryFrame, mkF, argsToLocals, Value.category]; done) | rfl
def own_Q_putS (Z : State) (sb : Addr) (ps : Addr) (cz : Int32) (pb bv : Addr) (kpb kb : ClassId) (w0 w1 w2 w3 w4 : Int32) (h0 : Heap) (n0 : Nat) (v : Option Value) (h : Heap) (L : List Loc) : Prop := v = none ∧ Fr n0 L ∧ Keep h0 h [bv] ∧ Arv Z h bv kb .byte (16 : Int32) [(.int w0), (.int w1), (.int w2), (.int w3), (.int w4), (.int 0), (.int 0), (.int 0), (.int 0), (.int 0), (.int 0), (.int 0), (.int 0), (.int 0), (.int 0), (.int 0)] (.int 0) ∧ Sta Z h "java/lang/String" "COMPACT_STRINGS" "Z" (.int cz)
set_option maxRecDepth 65536 in
set_option maxHeartbeats 40000000 in
theorem own_rm_putS (l : Launch) (Z : State) (a0 : Array Value) (hw : ∀ d ∈ tables_1, d.before a0 Z = true) (ws : List Jvm.Cond) (sb : Addr) (ps : Addr) (cz : Int32) (pb bv : Addr) (kpb kb : ClassId) (w0 w1 w2 w3 w4 : Int32) (h0 : Heap) (n0 : Nat) (Z0 : n0 ≤ h0.size) (hnd : ([sb, ps, pb, bv] : List Addr).Nodup) (g_bv : n0 ≤ bv) (Sc0 : Sta Z h0 "java/lang/String" "COMPACT_STRINGS" "Z" (.int cz)) (hcz : ¬ cz = (0 : Int32)) (Eb0 : Exa Z h0 sb "java/lang/StringBuilder") (Fbc : Fld Z h0 sb "java/lang/AbstractStringBuilder" "coder" "B" (.int 0)) (Fbv : Fld Z h0 sb "java/lang/AbstractStringBuilder" "value" "[B" (.ref bv)) (Ex0 : Exa Z h0 ps "java/lang/String") (Fc0 : Fld Z h0 ps "java/lang/String" "coder" "B" (.int 0)) (Fv0 : Fld Z h0 ps "java/lang/String" "value" "[B" (.ref pb)) (Vb0 : Arv Z h0 pb kpb .byte (5 : Int32) [(.int w0), (.int w1), (.int w2), (.int w3), (.int w4)] (.int 0)) (Vv0 : Arv Z h0 bv kb .byte (16 : Int32) [(.int 0), (.int 0), (.int 0), (.int 0), (.int 0), (.int 0), (.int 0), (.int 0), (.int 0), (.int 0), (.int 0), (.int 0), (.int 0), (.int 0), (.int 0), (.int 0)] (.int 0)) :
    MetFree l (⟨"java/lang/AbstractStringBuilder", "putStringAt", "(ILjava/lang/String;)V"⟩ : MethodName) (head1 (Jvm.Cond.code (⟨"java/lang/AbstractStringBuilder", "putStringAt", "(ILjava/lang/String;)V"⟩ : MethodName) jdk_68_method_73_code 3 none :: ws) ({ frames := 2, cells := 0, slots := 0, locals := 79 } : Room)) (fun a U => a = #[(.ref sb), (.int 0), (.ref ps)] ∧ Z.Warmed39 U.vm ∧ U.heap = h0) (fun _ _ _ _ _ => True) (fun _ U o U' => ∃ v L, o = .returned v ∧ own_Q_putS Z sb ps cz pb bv kpb kb w0 w1 w2 w3 w4 h0 n0 v U'.heap L ∧ FrameEnd U o U' L ({ frames := 2, cells := 0, slots := 0, locals := 79 } : Room).cells ({ frames := 2, cells := 0, slots := 0, locals := 79 } : Room).slots) := by
  refine MetFree.of_bodySF (plainFor_of_name own_pn_java_lang_AbstractStringBuilder) hisR ?_
  intro p e s m args below meth c s₁ Bd hml0 hP hKq_
  obtain ⟨rfl, hZ, hh⟩ := hP
  have hx := Bd.exec
  have hby := Bd.bytes
  have hml : c.maxLocals = 3 := hml0
  have hown : s.vm.findClass "java/lang/AbstractStringBuilder" = some m.cls := findClass_of_methodNamed Bd.named
  have hnm := (name_of_methodNamed Bd.named Bd.method).1
  have ow13 := hw _ (List.mem_of_getElem? (i := 13) rfl)
  have ow57 := hw _ (List.mem_of_getElem? (i := 57) rfl)
  have ow64 := hw _ (List.mem_of_getElem? (i := 64) rfl)
  have ow66 := hw _ (List.mem_of_getElem? (i := 66) rfl)
  have ow88 := hw _ (List.mem_of_getElem? (i := 88) rfl)
  have ow95 := hw _ (List.mem_of_getElem? (i := 95) rfl)
  have ow96 := hw _ (List.mem_of_getElem? (i := 96) rfl)
  have ow97 := hw _ (List.mem_of_getElem? (i := 97) rfl)
  have ow99 := hw _ (List.mem_of_getElem? (i := 99) rfl)
  have ow101 := hw _ (List.mem_of_getElem? (i := 101) rfl)
  have ow102 := hw _ (List.mem_of_getElem? (i := 102) rfl)
  have ow103 := hw _ (List.mem_of_getElem? (i := 103) rfl)
  have ow104 := hw _ (List.mem_of_getElem? (i := 104) rfl)
  have ow105 := hw _ (List.mem_of_getElem? (i := 105) rfl)
  have X0 : Stand p l e ({ frames := 2, cells := 0, slots := 0, locals := 79 } : Room) s m #[(.ref sb), (.int 0), (.ref ps)] below meth c s₁ [] 0 0 := Stand.of_body Bd
  have e0 : s₁.heap = h0 := by rw [← hh, Bd.state]; rfl
  have N0 := Fr.nil n0
  have pre0 : ∀ t, Steps p.tables e below (s₁.setTop (mkF m 0 #[(oR sb), (oi 0), (oR ps)] [])) t → Steps p.tables e below (s₁.setTop (entryFrame m #[(.ref sb), (.int 0), (.ref ps)] 3)) t := fun t k => castTop (own_ef_putS m sb (0 : Int32) ps) k
  refine own_go pre0 ?_
  refine own_abs ?_
  intro Pf hPf
  have nn_pb : pb ∉ ([bv] : List Addr) := (ninS (own_nd hnd (i := 2) (j := 3) rfl rfl (by decide)) nin0)
  have nn_ps : ps ∉ ([bv] : List Addr) := (ninS (own_nd hnd (i := 1) (j := 3) rfl rfl (by decide)) nin0)
  have nn_sb : sb ∉ ([bv] : List Addr) := (ninS (own_nd hnd (i := 0) (j := 3) rfl rfl (by decide)) nin0)
  refine own_go (A := oW p e below s₁ (oF_putS m 2 (oR sb) (oi 0) (oR ps) [(.ref ps), (.ref sb)])) (fun t k => by
    refine XS.aloadN X0.here hx rfl (hb hby o873_0) rfl rfl ?_
    show oW p e below s₁ (oF_putS m 1 (oR sb) (oi 0) (oR ps) [(.ref sb)]) _
    refine XS.aloadN X0.here hx rfl (hb hby o873_1) rfl rfl ?_
    exact k) ?_
  obtain ⟨cq1, q1a, q1b⟩ := Exa.cell Eb0
  obtain ⟨_, _, ⟨T1, L1, k1, n1⟩, -, X1, ⟨Lc1, hQ1, l1, y1, z1⟩, st1⟩ := own_privBack X0 hx (y := (⟨"java/lang/AbstractStringBuilder", "inflateIfNeededFor", "(Ljava/lang/String;)V"⟩ : MethodName)) (z := (⟨"java/lang/AbstractStringBuilder", "ensureCapacityInternal", "(I)V"⟩ : MethodName)) (w := (⟨"java/lang/AbstractStringBuilder", "ensureCapacityInternal", "(I)V"⟩ : MethodName)) hown (mvT hZ ow95) (mvT hZ ow96) (mvT hZ ow88) rfl (Cond.privateMethod_at (mvP hZ ow97 (args := #[]))) (mvT hZ ow99) (by decide) (backOf (W := 0) (own_rm_infl l Z a0 hw [] sb ps cz h0 n0 Z0 Sc0 hcz Eb0 Fbc Ex0 Fc0) hZ ow99 ow57 (by decide) (by decide)) (g := (oF_putS m 2 (oR sb) (oi 0) (oR ps) [(.ref ps), (.ref sb)])) rfl (by rw [hml]; rfl) (Steps.refl _) (a := sb) (by rw [e0]; exact q1a) q1b (argsL := [(.ref ps)]) (rest := []) (lenOf own_pd_28Ljava2flang2fString3b29V rfl) rfl (by show 2 * 0 + _ ≤ _; exact Nat.le_of_eq rfl) (hb hby o873_2) (fun _ _ => ⟨rfl, e0, (by decide : 0 + 0 ≤ _), (by decide : 0 + 0 ≤ _)⟩)
  dsimp only [Pt.U, Pt.locs, Pt.cells, Pt.slots] at X1 l1 y1 z1 st1 hQ1
  subst l1 y1 z1
  obtain ⟨rfl, N1q, eh1⟩ := hQ1
  have N1 := Fr.app N0 N1q
  refine own_go (fun _ k => st1.trans k) ?_
  refine own_go (A := oW p e below T1 (oF_putS m 7 (oR sb) (oi 0) (oR ps) [(.ref sb), (.ref ps)])) (fun t k => by
    refine XS.aloadN X1.here hx rfl (hb hby o873_5) rfl rfl ?_
    show oW p e below T1 (oF_putS m 6 (oR sb) (oi 0) (oR ps) [(.ref ps)]) _
    refine XS.aloadN X1.here hx rfl (hb hby o873_6) rfl rfl ?_
    exact k) ?_
  obtain ⟨T2, X2, e2, st2⟩ := getF X1 hx hZ hown (host := "") (Or.inl ow64) Via.refl eh1 Fbv (g := (oF_putS m 7 (oR sb) (oi 0) (oR ps) [(.ref sb), (.ref ps)])) rfl rfl (hb hby o873_7)
  refine own_go st2 ?_
  refine own_go (A := oW p e below T2 (oF_putS m 12 (oR sb) (oi 0) (oR ps) [(.ref sb), (.int 0), (.ref bv), (.ref ps)])) (fun t k => by
    refine XS.iloadN X2.here hx rfl (hb hby o873_10) rfl ?_
    show oW p e below T2 (oF_putS m 11 (oR sb) (oi 0) (oR ps) [(.int 0), (.ref bv), (.ref ps)]) _
    refine XS.aloadN X2.here hx rfl (hb hby o873_11) rfl rfl ?_
    exact k) ?_
  obtain ⟨T3, X3, e3, st3⟩ := getF X2 hx hZ hown (host := "") (Or.inl ow66) Via.refl e2 Fbc (g := (oF_putS m 12 (oR sb) (oi 0) (oR ps) [(.ref sb), (.int 0), (.ref bv), (.ref ps)])) rfl rfl (hb hby o873_12)
  refine own_go st3 ?_
  obtain ⟨cq4, kq4, q4a, q4b, q4c⟩ := isOf hZ e3 Ex0
  obtain ⟨_, _, ⟨T4, L4, k4, n4⟩, -, X4, ⟨Lc4, hQ4, l4, y4, z4⟩, st4⟩ := X3.virtualBack hx (y := (⟨"java/lang/String", "getBytes", "([BIB)V"⟩ : MethodName)) (z := (⟨"java/lang/String", "getBytes", "([BIB)V"⟩ : MethodName)) hown (mvT hZ ow101) (mvT hZ ow102) (notFace_of_selects (args := #[]) (mvT hZ ow104)) (mvT hZ ow104) (mvT hZ ow103) (by decide) (backOf (W := 0) (own_rm_getB l Z a0 hw [] ps bv cz pb kpb kb w0 w1 w2 w3 w4 h0 n0 Z0 (own_ndS (ninS (own_nd hnd (i := 1) (j := 2) rfl rfl (by decide)) (ninS (own_nd hnd (i := 1) (j := 3) rfl rfl (by decide)) nin0)) (own_ndS (ninS (own_nd hnd (i := 2) (j := 3) rfl rfl (by decide)) nin0) (own_ndS nin0 List.nodup_nil))) g_bv Sc0 hcz Ex0 Fc0 Fv0 Vb0 Vv0) hZ ow105 ow13 (by decide) (by decide)) q4a q4c (g := (oF_putS m 15 (oR sb) (oi 0) (oR ps) [(.int 0), (.int 0), (.ref bv), (.ref ps)])) rfl (by rw [hml]; rfl) (Steps.refl _) (argsL := [(.ref bv), (.int 0), (.int 0)]) (rest := []) (lenOf own_pd_285bBIB29V rfl) rfl (by show 2 * 0 + _ ≤ _; exact Nat.le_of_eq rfl) (hb hby o873_15) (fun _ _ => ⟨rfl, e3, (by decide : 0 + 0 ≤ _), (by decide : 0 + 0 ≤ _)⟩)
  dsimp only [Pt.U, Pt.locs, Pt.cells, Pt.slots] at X4 l4 y4 z4 st4 hQ4
  subst l4 y4 z4
  obtain ⟨rfl, N4q, K4q, p4_0, p4_1⟩ := hQ4
  have N4 := Fr.app N1 N4q
  have Z4 : n0 ≤ T4.heap.size := Nat.le_trans Z0 K4q.1
  have K4 : Keep h0 T4.heap [bv] := (Keep.refl h0 [bv]).trans K4q (allS (Or.inl (List.mem_of_getElem? (i := 0) rfl)) all0)
  refine own_go (fun _ k => st4.trans k) ?_
  obtain ⟨fs, hr, hrun, hended, hW, hsame⟩ := X4.leave (v := none) (fun _ => rfl)
  refine ⟨_, _, X4.returnOut hx Bd.returns (hb hby o873_18) hr, hPf _ _ ⟨hrun, hended, _, _, rfl, ?_, ⟨_, rfl⟩, hW, hsame.mono (by decide) (by decide)⟩⟩
  show own_Q_putS Z sb ps cz pb bv kpb kb w0 w1 w2 w3 w4 h0 n0 _ T4.heap _
  exact ⟨rfl, N4, K4, p4_0, p4_1⟩
abbrev oF_ens5 (m : MethodId) (pc : Nat) (a0 a1 a2 : Slot) (S : List Value) : JFrame := mkF m pc #[a0, a1, a2] S
theorem o689_0 : decode jdk_68_method_9_code 0 = .ok (.aload_n 0, 1) := by decide +kernel
theorem o689_1 : decode jdk_68_method_9_code 1 = .ok (.getfield 15, 3) := by decide +kernel
theorem o689_4 : decode jdk_68_method_9_code 4 = .ok (.arraylength, 1) := by decide +kernel
theorem o689_5 : decode jdk_68_method_9_code 5 = .ok (.aload_n 0, 1) := by decide +kernel
theorem o689_6 : decode jdk_68_method_9_code 6 = .ok (.getfield 22, 3) := by decide +kernel
theorem o689_9 : decode jdk_68_method_9_code 9 = .ok (.ishr, 1) := by decide +kernel
theorem o689_10 : decode jdk_68_method_9_code 10 = .ok (.istore_n 2, 1) := by decide +kernel
theorem o689_11 : decode jdk_68_method_9_code 11 = .ok (.iload_n 1, 1) := by decide +kernel
theorem o689_12 : decode jdk_68_method_9_code 12 = .ok (.iload_n 2, 1) := by decide +kernel
theorem o689_13 : decode jdk_68_method_9_code 13 = .ok (.isub, 1) := by decide +kernel
theorem o689_14 : decode jdk_68_method_9_code 14 = .ok (.ifCond .le 24, 3) := by decide +kernel
theorem o689_38 : decode jdk_68_method_9_code 38 = .ok (.return_, 1) := by decide +kernel
theorem own_ef_ens5 (m : MethodId) (x0 : Addr) (x1 : Int32) : entryFrame m #[(.ref x0), (.int x1)] 3 = mkF m 0 #[(oR x0), (oi x1), .unset] [] := by first | (simp [entryFrame, mkF, argsToLocals, Value.category]; done) | rfl
def own_Q_ens5 (Z : State) (sb : Addr) (bv : Addr) (kb : ClassId) (u0 u1 u2 u3 u4 : Int32) (h0 : Heap) (n0 : Nat) (v : Option Value) (h : Heap) (L : List Loc) : Prop := v = none ∧ Fr n0 L ∧ h = h0
set_option maxRecDepth 65536 in
set_option maxHeartbeats 40000000 in
theorem own_rm_ens5 (l : Launch) (Z : State) (a0 : Array Value) (hw : ∀ d ∈ tables_1, d.before a0 Z = true) (ws : List Jvm.Cond) (sb : Addr) (bv : Addr) (kb : ClassId) (u0 u1 u2 u3 u4 : Int32) (h0 : Heap) (n0 : Nat) (Z0 : n0 ≤ h0.size) (Eb0 : Exa Z h0 sb "java/lang/StringBuilder") (Fbc : Fld Z h0 sb "java/lang/AbstractStringBuilder" "coder" "B" (.int 0)) (Fbv : Fld Z h0 sb "java/lang/AbstractStringBuilder" "value" "[B" (.ref bv)) (Vv0 : Arv Z h0 bv kb .byte (16 : Int32) [(.int u0), (.int u1), (.int u2), (.int u3), (.int u4), (.int 0), (.int 0), (.int 0), (.int 0), (.int 0), (.int 0), (.int 0), (.int 0), (.int 0), (.int 0), (.int 0)] (.int 0)) :
    MetFree l (⟨"java/lang/AbstractStringBuilder", "ensureCapacityInternal", "(I)V"⟩ : MethodName) (head1 (Jvm.Cond.code (⟨"java/lang/AbstractStringBuilder", "ensureCapacityInternal", "(I)V"⟩ : MethodName) jdk_68_method_9_code 3 none :: ws) ({ frames := 0, cells := 0, slots := 0, locals := 0 } : Room)) (fun a U => a = #[(.ref sb), (.int 5)] ∧ Z.Warmed39 U.vm ∧ U.heap = h0) (fun _ _ _ _ _ => True) (fun _ U o U' => ∃ v L, o = .returned v ∧ own_Q_ens5 Z sb bv kb u0 u1 u2 u3 u4 h0 n0 v U'.heap L ∧ FrameEnd U o U' L ({ frames := 0, cells := 0, slots := 0, locals := 0 } : Room).cells ({ frames := 0, cells := 0, slots := 0, locals := 0 } : Room).slots) := by
  refine MetFree.of_bodySF (plainFor_of_name own_pn_java_lang_AbstractStringBuilder) hisR ?_
  intro p e s m args below meth c s₁ Bd hml0 hP hKq_
  obtain ⟨rfl, hZ, hh⟩ := hP
  have hx := Bd.exec
  have hby := Bd.bytes
  have hml : c.maxLocals = 3 := hml0
  have hown : s.vm.findClass "java/lang/AbstractStringBuilder" = some m.cls := findClass_of_methodNamed Bd.named
  have hnm := (name_of_methodNamed Bd.named Bd.method).1
  have ow64 := hw _ (List.mem_of_getElem? (i := 64) rfl)
  have ow66 := hw _ (List.mem_of_getElem? (i := 66) rfl)
  have X0 : Stand p l e ({ frames := 0, cells := 0, slots := 0, locals := 0 } : Room) s m #[(.ref sb), (.int 5)] below meth c s₁ [] 0 0 := Stand.of_body Bd
  have e0 : s₁.heap = h0 := by rw [← hh, Bd.state]; rfl
  have N0 := Fr.nil n0
  have pre0 : ∀ t, Steps p.tables e below (s₁.setTop (mkF m 0 #[(oR sb), (oi 5), .unset] [])) t → Steps p.tables e below (s₁.setTop (entryFrame m #[(.ref sb), (.int 5)] 3)) t := fun t k => castTop (own_ef_ens5 m sb (5 : Int32)) k
  refine own_go pre0 ?_
  refine own_abs ?_
  intro Pf hPf
  refine own_go (A := oW p e below s₁ (oF_ens5 m 1 (oR sb) (oi 5) .unset [(.ref sb)])) (fun t k => by
    refine XS.aloadN X0.here hx rfl (hb hby o689_0) rfl rfl ?_
    exact k) ?_
  obtain ⟨T1, X1, e1, st1⟩ := getF X0 hx hZ hown (host := "") (Or.inl ow64) Via.refl e0 Fbv (g := (oF_ens5 m 1 (oR sb) (oi 5) .unset [(.ref sb)])) rfl rfl (hb hby o689_1)
  refine own_go st1 ?_
  refine own_go (A := oW p e below T1 (oF_ens5 m 6 (oR sb) (oi 5) .unset [(.ref sb), (.int 16)])) (fun t k => by
    refine own_len2 X1 hx hZ e1 Vv0 (g := (oF_ens5 m 4 (oR sb) (oi 5) .unset [(.ref bv)])) rfl rfl (hb hby o689_4) _ ?_
    show oW p e below T1 (oF_ens5 m 5 (oR sb) (oi 5) .unset [(.int 16)]) _
    refine XS.aloadN X1.here hx rfl (hb hby o689_5) rfl rfl ?_
    exact k) ?_
  obtain ⟨T2, X2, e2, st2⟩ := getF X1 hx hZ hown (host := "") (Or.inl ow66) Via.refl e1 Fbc (g := (oF_ens5 m 6 (oR sb) (oi 5) .unset [(.ref sb), (.int 16)])) rfl rfl (hb hby o689_6)
  refine own_go st2 ?_
  refine own_go (A := oW p e below T2 (oF_ens5 m 38 (oR sb) (oi 5) (oi 16) [])) (fun t k => by
    refine XS.ishr X2.here hx rfl (hb hby o689_9) rfl ?_
    show oW p e below T2 (oF_ens5 m 10 (oR sb) (oi 5) .unset [(.int 16)]) _
    refine XS.istoreN X2.here hx rfl (hb hby o689_10) rfl (l' := #[(oR sb), (oi 5), (oi 16)]) rfl ?_
    show oW p e below T2 (oF_ens5 m 11 (oR sb) (oi 5) (oi 16) []) _
    refine XS.iloadN X2.here hx rfl (hb hby o689_11) rfl ?_
    show oW p e below T2 (oF_ens5 m 12 (oR sb) (oi 5) (oi 16) [(.int 5)]) _
    refine XS.iloadN X2.here hx rfl (hb hby o689_12) rfl ?_
    show oW p e below T2 (oF_ens5 m 13 (oR sb) (oi 5) (oi 16) [(.int 16), (.int 5)]) _
    refine XS.isub X2.here hx rfl (hb hby o689_13) rfl ?_
    show oW p e below T2 (oF_ens5 m 14 (oR sb) (oi 5) (oi 16) [(.int (-11))]) _
    refine XS.ifYes X2.here hx rfl (pc0 := 14) (pc' := 38) rfl (hb hby o689_14) rfl ((if0 _ _).trans (flt (by decide : ¬ ((0 : Int32) < (-11 : Int32)))).2.2.2) (by decide) (by decide) ?_
    exact k) ?_
  obtain ⟨fs, hr, hrun, hended, hW, hsame⟩ := X2.leave (v := none) (fun _ => rfl)
  refine ⟨_, _, X2.returnOut hx Bd.returns (hb hby o689_38) hr, hPf _ _ ⟨hrun, hended, _, _, rfl, ?_, ⟨_, rfl⟩, hW, hsame.mono (by decide) (by decide)⟩⟩
  show own_Q_ens5 Z sb bv kb u0 u1 u2 u3 u4 h0 n0 _ T2.heap _
  rw [e2]
  exact ⟨rfl, N0, rfl⟩
abbrev oF_ens6 (m : MethodId) (pc : Nat) (a0 a1 a2 : Slot) (S : List Value) : JFrame := mkF m pc #[a0, a1, a2] S
theorem own_ef_ens6 (m : MethodId) (x0 : Addr) (x1 : Int32) : entryFrame m #[(.ref x0), (.int x1)] 3 = mkF m 0 #[(oR x0), (oi x1), .unset] [] := by first | (simp [entryFrame, mkF, argsToLocals, Value.category]; done) | rfl
def own_Q_ens6 (Z : State) (sb : Addr) (bv : Addr) (kb : ClassId) (u0 u1 u2 u3 u4 : Int32) (h0 : Heap) (n0 : Nat) (v : Option Value) (h : Heap) (L : List Loc) : Prop := v = none ∧ Fr n0 L ∧ h = h0
set_option maxRecDepth 65536 in
set_option maxHeartbeats 40000000 in
theorem own_rm_ens6 (l : Launch) (Z : State) (a0 : Array Value) (hw : ∀ d ∈ tables_1, d.before a0 Z = true) (ws : List Jvm.Cond) (sb : Addr) (bv : Addr) (kb : ClassId) (u0 u1 u2 u3 u4 : Int32) (h0 : Heap) (n0 : Nat) (Z0 : n0 ≤ h0.size) (Eb0 : Exa Z h0 sb "java/lang/StringBuilder") (Fbc : Fld Z h0 sb "java/lang/AbstractStringBuilder" "coder" "B" (.int 0)) (Fbv : Fld Z h0 sb "java/lang/AbstractStringBuilder" "value" "[B" (.ref bv)) (Vv0 : Arv Z h0 bv kb .byte (16 : Int32) [(.int u0), (.int u1), (.int u2), (.int u3), (.int u4), (.int 0), (.int 0), (.int 0), (.int 0), (.int 0), (.int 0), (.int 0), (.int 0), (.int 0), (.int 0), (.int 0)] (.int 0)) :
    MetFree l (⟨"java/lang/AbstractStringBuilder", "ensureCapacityInternal", "(I)V"⟩ : MethodName) (head1 (Jvm.Cond.code (⟨"java/lang/AbstractStringBuilder", "ensureCapacityInternal", "(I)V"⟩ : MethodName) jdk_68_method_9_code 3 none :: ws) ({ frames := 0, cells := 0, slots := 0, locals := 0 } : Room)) (fun a U => a = #[(.ref sb), (.int 6)] ∧ Z.Warmed39 U.vm ∧ U.heap = h0) (fun _ _ _ _ _ => True) (fun _ U o U' => ∃ v L, o = .returned v ∧ own_Q_ens6 Z sb bv kb u0 u1 u2 u3 u4 h0 n0 v U'.heap L ∧ FrameEnd U o U' L ({ frames := 0, cells := 0, slots := 0, locals := 0 } : Room).cells ({ frames := 0, cells := 0, slots := 0, locals := 0 } : Room).slots) := by
  refine MetFree.of_bodySF (plainFor_of_name own_pn_java_lang_AbstractStringBuilder) hisR ?_
  intro p e s m args below meth c s₁ Bd hml0 hP hKq_
  obtain ⟨rfl, hZ, hh⟩ := hP
  have hx := Bd.exec
  have hby := Bd.bytes
  have hml : c.maxLocals = 3 := hml0
  have hown : s.vm.findClass "java/lang/AbstractStringBuilder" = some m.cls := findClass_of_methodNamed Bd.named
  have hnm := (name_of_methodNamed Bd.named Bd.method).1
  have ow64 := hw _ (List.mem_of_getElem? (i := 64) rfl)
  have ow66 := hw _ (List.mem_of_getElem? (i := 66) rfl)
  have X0 : Stand p l e ({ frames := 0, cells := 0, slots := 0, locals := 0 } : Room) s m #[(.ref sb), (.int 6)] below meth c s₁ [] 0 0 := Stand.of_body Bd
  have e0 : s₁.heap = h0 := by rw [← hh, Bd.state]; rfl
  have N0 := Fr.nil n0
  have pre0 : ∀ t, Steps p.tables e below (s₁.setTop (mkF m 0 #[(oR sb), (oi 6), .unset] [])) t → Steps p.tables e below (s₁.setTop (entryFrame m #[(.ref sb), (.int 6)] 3)) t := fun t k => castTop (own_ef_ens6 m sb (6 : Int32)) k
  refine own_go pre0 ?_
  refine own_abs ?_
  intro Pf hPf
  refine own_go (A := oW p e below s₁ (oF_ens6 m 1 (oR sb) (oi 6) .unset [(.ref sb)])) (fun t k => by
    refine XS.aloadN X0.here hx rfl (hb hby o689_0) rfl rfl ?_
    exact k) ?_
  obtain ⟨T1, X1, e1, st1⟩ := getF X0 hx hZ hown (host := "") (Or.inl ow64) Via.refl e0 Fbv (g := (oF_ens6 m 1 (oR sb) (oi 6) .unset [(.ref sb)])) rfl rfl (hb hby o689_1)
  refine own_go st1 ?_
  refine own_go (A := oW p e below T1 (oF_ens6 m 6 (oR sb) (oi 6) .unset [(.ref sb), (.int 16)])) (fun t k => by
    refine own_len2 X1 hx hZ e1 Vv0 (g := (oF_ens6 m 4 (oR sb) (oi 6) .unset [(.ref bv)])) rfl rfl (hb hby o689_4) _ ?_
    show oW p e below T1 (oF_ens6 m 5 (oR sb) (oi 6) .unset [(.int 16)]) _
    refine XS.aloadN X1.here hx rfl (hb hby o689_5) rfl rfl ?_
    exact k) ?_
  obtain ⟨T2, X2, e2, st2⟩ := getF X1 hx hZ hown (host := "") (Or.inl ow66) Via.refl e1 Fbc (g := (oF_ens6 m 6 (oR sb) (oi 6) .unset [(.ref sb), (.int 16)])) rfl rfl (hb hby o689_6)
  refine own_go st2 ?_
  refine own_go (A := oW p e below T2 (oF_ens6 m 38 (oR sb) (oi 6) (oi 16) [])) (fun t k => by
    refine XS.ishr X2.here hx rfl (hb hby o689_9) rfl ?_
    show oW p e below T2 (oF_ens6 m 10 (oR sb) (oi 6) .unset [(.int 16)]) _
    refine XS.istoreN X2.here hx rfl (hb hby o689_10) rfl (l' := #[(oR sb), (oi 6), (oi 16)]) rfl ?_
    show oW p e below T2 (oF_ens6 m 11 (oR sb) (oi 6) (oi 16) []) _
    refine XS.iloadN X2.here hx rfl (hb hby o689_11) rfl ?_
    show oW p e below T2 (oF_ens6 m 12 (oR sb) (oi 6) (oi 16) [(.int 6)]) _
    refine XS.iloadN X2.here hx rfl (hb hby o689_12) rfl ?_
    show oW p e below T2 (oF_ens6 m 13 (oR sb) (oi 6) (oi 16) [(.int 16), (.int 6)]) _
    refine XS.isub X2.here hx rfl (hb hby o689_13) rfl ?_
    show oW p e below T2 (oF_ens6 m 14 (oR sb) (oi 6) (oi 16) [(.int (-10))]) _
    refine XS.ifYes X2.here hx rfl (pc0 := 14) (pc' := 38) rfl (hb hby o689_14) rfl ((if0 _ _).trans (flt (by decide : ¬ ((0 : Int32) < (-10 : Int32)))).2.2.2) (by decide) (by decide) ?_
    exact k) ?_
  obtain ⟨fs, hr, hrun, hended, hW, hsame⟩ := X2.leave (v := none) (fun _ => rfl)
  refine ⟨_, _, X2.returnOut hx Bd.returns (hb hby o689_38) hr, hPf _ _ ⟨hrun, hended, _, _, rfl, ?_, ⟨_, rfl⟩, hW, hsame.mono (by decide) (by decide)⟩⟩
  show own_Q_ens6 Z sb bv kb u0 u1 u2 u3 u4 h0 n0 _ T2.heap _
  rw [e2]
  exact ⟨rfl, N0, rfl⟩
abbrev oF_apA (m : MethodId) (pc : Nat) (a0 a1 a2 : Slot) (S : List Value) : JFrame := mkF m pc #[a0, a1, a2] S
theorem o822_0 : decode jdk_68_method_22_code 0 = .ok (.aload_n 1, 1) := by decide +kernel
theorem o822_1 : decode jdk_68_method_22_code 1 = .ok (.ifnonnull 8, 3) := by decide +kernel
theorem o822_9 : decode jdk_68_method_22_code 9 = .ok (.aload_n 1, 1) := by decide +kernel
theorem o822_10 : decode jdk_68_method_22_code 10 = .ok (.invokevirtual 32, 3) := by decide +kernel
theorem own_pd_2829I : parseMethodDescriptor "()I" = some ⟨[], some .int⟩ := by decide +kernel
theorem o822_13 : decode jdk_68_method_22_code 13 = .ok (.istore_n 2, 1) := by decide +kernel
theorem o822_14 : decode jdk_68_method_22_code 14 = .ok (.aload_n 0, 1) := by decide +kernel
theorem o822_15 : decode jdk_68_method_22_code 15 = .ok (.aload_n 0, 1) := by decide +kernel
theorem o822_16 : decode jdk_68_method_22_code 16 = .ok (.getfield 79, 3) := by decide +kernel
theorem o822_19 : decode jdk_68_method_22_code 19 = .ok (.iload_n 2, 1) := by decide +kernel
theorem o822_20 : decode jdk_68_method_22_code 20 = .ok (.iadd, 1) := by decide +kernel
theorem o822_21 : decode jdk_68_method_22_code 21 = .ok (.invokevirtual 100, 3) := by decide +kernel
theorem o822_24 : decode jdk_68_method_22_code 24 = .ok (.aload_n 0, 1) := by decide +kernel
theorem o822_25 : decode jdk_68_method_22_code 25 = .ok (.aload_n 0, 1) := by decide +kernel
theorem o822_26 : decode jdk_68_method_22_code 26 = .ok (.getfield 79, 3) := by decide +kernel
theorem o822_29 : decode jdk_68_method_22_code 29 = .ok (.aload_n 1, 1) := by decide +kernel
theorem o822_30 : decode jdk_68_method_22_code 30 = .ok (.invokevirtual 208, 3) := by decide +kernel
theorem own_pd_28ILjava2flang2fString3b29V : parseMethodDescriptor "(ILjava/lang/String;)V" = some ⟨[.int, (.object "java/lang/String")], none⟩ := by decide +kernel
theorem o822_33 : decode jdk_68_method_22_code 33 = .ok (.aload_n 0, 1) := by decide +kernel
theorem o822_34 : decode jdk_68_method_22_code 34 = .ok (.dup, 1) := by decide +kernel
theorem o822_35 : decode jdk_68_method_22_code 35 = .ok (.getfield 79, 3) := by decide +kernel
theorem o822_38 : decode jdk_68_method_22_code 38 = .ok (.iload_n 2, 1) := by decide +kernel
theorem o822_39 : decode jdk_68_method_22_code 39 = .ok (.iadd, 1) := by decide +kernel
theorem o822_40 : decode jdk_68_method_22_code 40 = .ok (.putfield 79, 3) := by decide +kernel
theorem o822_43 : decode jdk_68_method_22_code 43 = .ok (.aload_n 0, 1) := by decide +kernel
theorem o822_44 : decode jdk_68_method_22_code 44 = .ok (.areturn, 1) := by decide +kernel
theorem own_ef_apA (m : MethodId) (x0 : Addr) (x1 : Addr) : entryFrame m #[(.ref x0), (.ref x1)] 3 = mkF m 0 #[(oR x0), (oR x1), .unset] [] := by first | (simp [entryFrame, mkF, argsToLocals, Value.category]; done) | rfl
def own_Q_apA (Z : State) (sb : Addr) (ps : Addr) (cz : Int32) (pb bv : Addr) (kpb kb : ClassId) (w0 w1 w2 w3 w4 : Int32) (h0 : Heap) (n0 : Nat) (v : Option Value) (h : Heap) (L : List Loc) : Prop := v = some (.ref sb) ∧ Fr n0 L ∧ Keep h0 h [sb, bv] ∧ Fld Z h sb "java/lang/AbstractStringBuilder" "value" "[B" (.ref bv) ∧ Fld Z h sb "java/lang/AbstractStringBuilder" "coder" "B" (.int 0) ∧ Fld Z h sb "java/lang/AbstractStringBuilder" "count" "I" (.int 5) ∧ Arv Z h bv kb .byte (16 : Int32) [(.int w0), (.int w1), (.int w2), (.int w3), (.int w4), (.int 0), (.int 0), (.int 0), (.int 0), (.int 0), (.int 0), (.int 0), (.int 0), (.int 0), (.int 0), (.int 0)] (.int 0) ∧ Sta Z h "java/lang/String" "COMPACT_STRINGS" "Z" (.int cz)
set_option maxRecDepth 65536 in
set_option maxHeartbeats 40000000 in
theorem own_rm_apA (l : Launch) (Z : State) (a0 : Array Value) (hw : ∀ d ∈ tables_1, d.before a0 Z = true) (ws : List Jvm.Cond) (sb : Addr) (ps : Addr) (cz : Int32) (pb bv : Addr) (kpb kb : ClassId) (w0 w1 w2 w3 w4 : Int32) (h0 : Heap) (n0 : Nat) (Z0 : n0 ≤ h0.size) (hnd : ([sb, ps, pb, bv] : List Addr).Nodup) (g_sb : n0 ≤ sb) (g_bv : n0 ≤ bv) (Sc0 : Sta Z h0 "java/lang/String" "COMPACT_STRINGS" "Z" (.int cz)) (hcz : ¬ cz = (0 : Int32)) (Eb0 : Exa Z h0 sb "java/lang/StringBuilder") (Fbc : Fld Z h0 sb "java/lang/AbstractStringBuilder" "coder" "B" (.int 0)) (Fbv : Fld Z h0 sb "java/lang/AbstractStringBuilder" "value" "[B" (.ref bv)) (Fbn : Fld Z h0 sb "java/lang/AbstractStringBuilder" "count" "I" (.int 0)) (Ex0 : Exa Z h0 ps "java/lang/String") (Fc0 : Fld Z h0 ps "java/lang/String" "coder" "B" (.int 0)) (Fv0 : Fld Z h0 ps "java/lang/String" "value" "[B" (.ref pb)) (Vb0 : Arv Z h0 pb kpb .byte (5 : Int32) [(.int w0), (.int w1), (.int w2), (.int w3), (.int w4)] (.int 0)) (Vv0 : Arv Z h0 bv kb .byte (16 : Int32) [(.int 0), (.int 0), (.int 0), (.int 0), (.int 0), (.int 0), (.int 0), (.int 0), (.int 0), (.int 0), (.int 0), (.int 0), (.int 0), (.int 0), (.int 0), (.int 0)] (.int 0)) :
    MetFree l (⟨"java/lang/AbstractStringBuilder", "append", "(Ljava/lang/String;)Ljava/lang/AbstractStringBuilder;"⟩ : MethodName) (head1 (Jvm.Cond.code (⟨"java/lang/AbstractStringBuilder", "append", "(Ljava/lang/String;)Ljava/lang/AbstractStringBuilder;"⟩ : MethodName) jdk_68_method_22_code 3 (some (.object "java/lang/AbstractStringBuilder")) :: ws) ({ frames := 3, cells := 0, slots := 0, locals := 93 } : Room)) (fun a U => a = #[(.ref sb), (.ref ps)] ∧ Z.Warmed39 U.vm ∧ U.heap = h0) (fun _ _ _ _ _ => True) (fun _ U o U' => ∃ v L, o = .returned v ∧ own_Q_apA Z sb ps cz pb bv kpb kb w0 w1 w2 w3 w4 h0 n0 v U'.heap L ∧ FrameEnd U o U' L ({ frames := 3, cells := 0, slots := 0, locals := 93 } : Room).cells ({ frames := 3, cells := 0, slots := 0, locals := 93 } : Room).slots) := by
  refine MetFree.of_bodySF (plainFor_of_name own_pn_java_lang_AbstractStringBuilder) hisR ?_
  intro p e s m args below meth c s₁ Bd hml0 hP hKq_
  obtain ⟨rfl, hZ, hh⟩ := hP
  have hx := Bd.exec
  have hby := Bd.bytes
  have hml : c.maxLocals = 3 := hml0
  have hown : s.vm.findClass "java/lang/AbstractStringBuilder" = some m.cls := findClass_of_methodNamed Bd.named
  have hnm := (name_of_methodNamed Bd.named Bd.method).1
  have ow10 := hw _ (List.mem_of_getElem? (i := 10) rfl)
  have ow11 := hw _ (List.mem_of_getElem? (i := 11) rfl)
  have ow12 := hw _ (List.mem_of_getElem? (i := 12) rfl)
  have ow13 := hw _ (List.mem_of_getElem? (i := 13) rfl)
  have ow14 := hw _ (List.mem_of_getElem? (i := 14) rfl)
  have ow48 := hw _ (List.mem_of_getElem? (i := 48) rfl)
  have ow57 := hw _ (List.mem_of_getElem? (i := 57) rfl)
  have ow65 := hw _ (List.mem_of_getElem? (i := 65) rfl)
  have ow67 := hw _ (List.mem_of_getElem? (i := 67) rfl)
  have ow82 := hw _ (List.mem_of_getElem? (i := 82) rfl)
  have ow83 := hw _ (List.mem_of_getElem? (i := 83) rfl)
  have ow84 := hw _ (List.mem_of_getElem? (i := 84) rfl)
  have ow85 := hw _ (List.mem_of_getElem? (i := 85) rfl)
  have ow86 := hw _ (List.mem_of_getElem? (i := 86) rfl)
  have ow87 := hw _ (List.mem_of_getElem? (i := 87) rfl)
  have ow88 := hw _ (List.mem_of_getElem? (i := 88) rfl)
  have ow89 := hw _ (List.mem_of_getElem? (i := 89) rfl)
  have ow90 := hw _ (List.mem_of_getElem? (i := 90) rfl)
  have ow91 := hw _ (List.mem_of_getElem? (i := 91) rfl)
  have ow92 := hw _ (List.mem_of_getElem? (i := 92) rfl)
  have ow94 := hw _ (List.mem_of_getElem? (i := 94) rfl)
  have X0 : Stand p l e ({ frames := 3, cells := 0, slots := 0, locals := 93 } : Room) s m #[(.ref sb), (.ref ps)] below meth c s₁ [] 0 0 := Stand.of_body Bd
  have e0 : s₁.heap = h0 := by rw [← hh, Bd.state]; rfl
  have N0 := Fr.nil n0
  have pre0 : ∀ t, Steps p.tables e below (s₁.setTop (mkF m 0 #[(oR sb), (oR ps), .unset] [])) t → Steps p.tables e below (s₁.setTop (entryFrame m #[(.ref sb), (.ref ps)] 3)) t := fun t k => castTop (own_ef_apA m sb ps) k
  refine own_go pre0 ?_
  refine own_abs ?_
  intro Pf hPf
  have od_sb_bv : sb ≠ bv := (own_nd hnd (i := 0) (j := 3) rfl rfl (by decide))
  have nn_pb : pb ∉ ([sb, bv] : List Addr) := (ninS (own_nd hnd (i := 2) (j := 0) rfl rfl (by decide)) (ninS (own_nd hnd (i := 2) (j := 3) rfl rfl (by decide)) nin0))
  have nn_ps : ps ∉ ([sb, bv] : List Addr) := (ninS (own_nd hnd (i := 1) (j := 0) rfl rfl (by decide)) (ninS (own_nd hnd (i := 1) (j := 3) rfl rfl (by decide)) nin0))
  refine own_go (A := oW p e below s₁ (oF_apA m 10 (oR sb) (oR ps) .unset [(.ref ps)])) (fun t k => by
    refine XS.aloadN X0.here hx rfl (hb hby o822_0) rfl rfl ?_
    show oW p e below s₁ (oF_apA m 1 (oR sb) (oR ps) .unset [(.ref ps)]) _
    refine XS.ifnonnullYes X0.here hx rfl (pc0 := 1) (pc' := 9) rfl (hb hby o822_1) rfl (by decide) (by decide) ?_
    show oW p e below s₁ (oF_apA m 9 (oR sb) (oR ps) .unset []) _
    refine XS.aloadN X0.here hx rfl (hb hby o822_9) rfl rfl ?_
    exact k) ?_
  obtain ⟨cq1, kq1, q1a, q1b, q1c⟩ := isOf hZ e0 Ex0
  obtain ⟨_, _, ⟨T1, L1, k1, n1⟩, -, X1, ⟨Lc1, hQ1, l1, y1, z1⟩, st1⟩ := X0.virtualBack hx (y := (⟨"java/lang/String", "length", "()I"⟩ : MethodName)) (z := (⟨"java/lang/String", "length", "()I"⟩ : MethodName)) hown (mvT hZ ow82) (mvT hZ ow10) (notFace_of_selects (args := #[]) (mvT hZ ow12)) (mvT hZ ow12) (mvT hZ ow11) (by decide) (backOf (W := 0) (own_rm_lenA l Z a0 hw [] ps cz pb kpb w0 w1 w2 w3 w4 h0 n0 Z0 Sc0 hcz Ex0 Fc0 Fv0 Vb0) hZ ow14 ow13 (by decide) (by decide)) q1a q1c (g := (oF_apA m 10 (oR sb) (oR ps) .unset [(.ref ps)])) rfl (by rw [hml]; rfl) (Steps.refl _) (argsL := []) (rest := []) (lenOf own_pd_2829I rfl) rfl (by show 2 * 0 + _ ≤ _; exact Nat.le_of_eq rfl) (hb hby o822_10) (fun _ _ => ⟨rfl, e0, (by decide : 0 + 0 ≤ _), (by decide : 0 + 0 ≤ _)⟩)
  dsimp only [Pt.U, Pt.locs, Pt.cells, Pt.slots] at X1 l1 y1 z1 st1 hQ1
  subst l1 y1 z1
  obtain ⟨rfl, N1q, eh1⟩ := hQ1
  have N1 := Fr.app N0 N1q
  refine own_go (fun _ k => st1.trans k) ?_
  refine own_go (A := oW p e below T1 (oF_apA m 16 (oR sb) (oR ps) (oi 5) [(.ref sb), (.ref sb)])) (fun t k => by
    refine XS.istoreN X1.here hx rfl (hb hby o822_13) rfl (l' := #[(oR sb), (oR ps), (oi 5)]) rfl ?_
    show oW p e below T1 (oF_apA m 14 (oR sb) (oR ps) (oi 5) []) _
    refine XS.aloadN X1.here hx rfl (hb hby o822_14) rfl rfl ?_
    show oW p e below T1 (oF_apA m 15 (oR sb) (oR ps) (oi 5) [(.ref sb)]) _
    refine XS.aloadN X1.here hx rfl (hb hby o822_15) rfl rfl ?_
    exact k) ?_
  obtain ⟨T2, X2, e2, st2⟩ := getF X1 hx hZ hown (host := "") (Or.inl ow83) Via.refl eh1 Fbn (g := (oF_apA m 16 (oR sb) (oR ps) (oi 5) [(.ref sb), (.ref sb)])) rfl rfl (hb hby o822_16)
  refine own_go st2 ?_
  refine own_go (A := oW p e below T2 (oF_apA m 21 (oR sb) (oR ps) (oi 5) [(.int 5), (.ref sb)])) (fun t k => by
    refine XS.iloadN X2.here hx rfl (hb hby o822_19) rfl ?_
    show oW p e below T2 (oF_apA m 20 (oR sb) (oR ps) (oi 5) [(.int 5), (.int 0), (.ref sb)]) _
    refine XS.iadd X2.here hx rfl (hb hby o822_20) rfl ?_
    exact k) ?_
  obtain ⟨cq3, q3a, q3b⟩ := Exa.cell Eb0
  obtain ⟨_, _, ⟨T3, L3, k3, n3⟩, -, X3, ⟨Lc3, hQ3, l3, y3, z3⟩, st3⟩ := own_privBack X2 hx (y := (⟨"java/lang/AbstractStringBuilder", "ensureCapacityInternal", "(I)V"⟩ : MethodName)) (z := (⟨"java/lang/AbstractStringBuilder", "ensureCapacityInternal", "(I)V"⟩ : MethodName)) (w := (⟨"java/lang/AbstractStringBuilder", "ensureCapacityInternal", "(I)V"⟩ : MethodName)) hown (mvT hZ ow85) (mvT hZ ow86) (mvT hZ ow88) rfl (Cond.privateMethod_at (mvP hZ ow87 (args := #[]))) (mvT hZ ow89) (by decide) (backOf (W := 0) (own_rm_ens5 l Z a0 hw [] sb bv kb (0 : Int32) (0 : Int32) (0 : Int32) (0 : Int32) (0 : Int32) h0 n0 Z0 Eb0 Fbc Fbv Vv0) hZ ow89 ow57 (by decide) (by decide)) (g := (oF_apA m 21 (oR sb) (oR ps) (oi 5) [(.int 5), (.ref sb)])) rfl (by rw [hml]; rfl) (Steps.refl _) (a := sb) (by rw [e2]; exact q3a) q3b (argsL := [(.int 5)]) (rest := []) (lenOf own_pd_28I29V rfl) rfl (by show 2 * 0 + _ ≤ _; exact Nat.le_of_eq rfl) (hb hby o822_21) (fun _ _ => ⟨rfl, e2, (by decide : 0 + 0 ≤ _), (by decide : 0 + 0 ≤ _)⟩)
  dsimp only [Pt.U, Pt.locs, Pt.cells, Pt.slots] at X3 l3 y3 z3 st3 hQ3
  subst l3 y3 z3
  obtain ⟨rfl, N3q, eh3⟩ := hQ3
  have N3 := Fr.app N1 N3q
  refine own_go (fun _ k => st3.trans k) ?_
  refine own_go (A := oW p e below T3 (oF_apA m 26 (oR sb) (oR ps) (oi 5) [(.ref sb), (.ref sb)])) (fun t k => by
    refine XS.aloadN X3.here hx rfl (hb hby o822_24) rfl rfl ?_
    show oW p e below T3 (oF_apA m 25 (oR sb) (oR ps) (oi 5) [(.ref sb)]) _
    refine XS.aloadN X3.here hx rfl (hb hby o822_25) rfl rfl ?_
    exact k) ?_
  obtain ⟨T4, X4, e4, st4⟩ := getF X3 hx hZ hown (host := "") (Or.inl ow83) Via.refl eh3 Fbn (g := (oF_apA m 26 (oR sb) (oR ps) (oi 5) [(.ref sb), (.ref sb)])) rfl rfl (hb hby o822_26)
  refine own_go st4 ?_
  refine own_go (A := oW p e below T4 (oF_apA m 30 (oR sb) (oR ps) (oi 5) [(.ref ps), (.int 0), (.ref sb)])) (fun t k => by
    refine XS.aloadN X4.here hx rfl (hb hby o822_29) rfl rfl ?_
    exact k) ?_
  obtain ⟨cq5, q5a, q5b⟩ := Exa.cell Eb0
  obtain ⟨_, _, ⟨T5, L5, k5, n5⟩, -, X5, ⟨Lc5, hQ5, l5, y5, z5⟩, st5⟩ := own_privBack X4 hx (y := (⟨"java/lang/AbstractStringBuilder", "putStringAt", "(ILjava/lang/String;)V"⟩ : MethodName)) (z := (⟨"java/lang/AbstractStringBuilder", "ensureCapacityInternal", "(I)V"⟩ : MethodName)) (w := (⟨"java/lang/AbstractStringBuilder", "ensureCapacityInternal", "(I)V"⟩ : MethodName)) hown (mvT hZ ow90) (mvT hZ ow91) (mvT hZ ow88) rfl (Cond.privateMethod_at (mvP hZ ow92 (args := #[]))) (mvT hZ ow94) (by decide) (backOf (W := 0) (own_rm_putS l Z a0 hw [] sb ps cz pb bv kpb kb w0 w1 w2 w3 w4 h0 n0 Z0 (own_ndS (ninS (own_nd hnd (i := 0) (j := 1) rfl rfl (by decide)) (ninS (own_nd hnd (i := 0) (j := 2) rfl rfl (by decide)) (ninS od_sb_bv nin0))) (own_ndS (ninS (own_nd hnd (i := 1) (j := 2) rfl rfl (by decide)) (ninS (own_nd hnd (i := 1) (j := 3) rfl rfl (by decide)) nin0)) (own_ndS (ninS (own_nd hnd (i := 2) (j := 3) rfl rfl (by decide)) nin0) (own_ndS nin0 List.nodup_nil)))) g_bv Sc0 hcz Eb0 Fbc Fbv Ex0 Fc0 Fv0 Vb0 Vv0) hZ ow94 ow57 (by decide) (by decide)) (g := (oF_apA m 30 (oR sb) (oR ps) (oi 5) [(.ref ps), (.int 0), (.ref sb)])) rfl (by rw [hml]; rfl) (Steps.refl _) (a := sb) (by rw [e4]; exact q5a) q5b (argsL := [(.int 0), (.ref ps)]) (rest := []) (lenOf own_pd_28ILjava2flang2fString3b29V rfl) rfl (by show 2 * 0 + _ ≤ _; exact Nat.le_of_eq rfl) (hb hby o822_30) (fun _ _ => ⟨rfl, e4, (by decide : 0 + 0 ≤ _), (by decide : 0 + 0 ≤ _)⟩)
  dsimp only [Pt.U, Pt.locs, Pt.cells, Pt.slots] at X5 l5 y5 z5 st5 hQ5
  subst l5 y5 z5
  obtain ⟨rfl, N5q, K5q, p5_0, p5_1⟩ := hQ5
  have N5 := Fr.app N3 N5q
  have f5_2 : Fld Z T5.heap sb "java/lang/AbstractStringBuilder" "coder" "B" (.int 0) := Fbc.keep K5q (ninS od_sb_bv nin0)
  have f5_3 : Fld Z T5.heap sb "java/lang/AbstractStringBuilder" "value" "[B" (.ref bv) := Fbv.keep K5q (ninS od_sb_bv nin0)
  have f5_4 : Fld Z T5.heap sb "java/lang/AbstractStringBuilder" "count" "I" (.int 0) := Fbn.keep K5q (ninS od_sb_bv nin0)
  have Z5 : n0 ≤ T5.heap.size := Nat.le_trans Z0 K5q.1
  have K5 : Keep h0 T5.heap [sb, bv] := (Keep.refl h0 [sb, bv]).trans K5q (allS (Or.inl (List.mem_of_getElem? (i := 1) rfl)) all0)
  refine own_go (fun _ k => st5.trans k) ?_
  refine own_go (A := oW p e below T5 (oF_apA m 35 (oR sb) (oR ps) (oi 5) [(.ref sb), (.ref sb)])) (fun t k => by
    refine XS.aloadN X5.here hx rfl (hb hby o822_33) rfl rfl ?_
    show oW p e below T5 (oF_apA m 34 (oR sb) (oR ps) (oi 5) [(.ref sb)]) _
    refine XS.dup X5.here hx rfl (hb hby o822_34) rfl rfl ?_
    exact k) ?_
  obtain ⟨T6, X6, e6, st6⟩ := getF X5 hx hZ hown (host := "") (Or.inl ow83) Via.refl rfl f5_4 (g := (oF_apA m 35 (oR sb) (oR ps) (oi 5) [(.ref sb), (.ref sb)])) rfl rfl (hb hby o822_35)
  refine own_go st6 ?_
  refine own_go (A := oW p e below T6 (oF_apA m 40 (oR sb) (oR ps) (oi 5) [(.int 5), (.ref sb)])) (fun t k => by
    refine XS.iloadN X6.here hx rfl (hb hby o822_38) rfl ?_
    show oW p e below T6 (oF_apA m 39 (oR sb) (oR ps) (oi 5) [(.int 5), (.int 0), (.ref sb)]) _
    refine XS.iadd X6.here hx rfl (hb hby o822_39) rfl ?_
    exact k) ?_
  obtain ⟨T7, h7, X7, e7, W7, st7⟩ := putF X6 hx hZ hown (host := "") (Or.inl ow83) Via.refl e6 f5_4 (Eb0.keep K5) (Or.inl ow84) ow48 (ty := .int) (by decide) rfl rfl (g := (oF_apA m 40 (oR sb) (oR ps) (oi 5) [(.int 5), (.ref sb)])) rfl rfl (hb hby o822_40)
  refine own_go st7 ?_
  have f7_1 : Fld Z h7 sb "java/lang/AbstractStringBuilder" "coder" "B" (.int 0) := f5_2.other W7 (Or.inr (slot_ne (Or.inl ow67) (Or.inl ow84) (by decide) (t := .byte) (t' := .int) (by decide) (by decide)))
  have f7_2 : Fld Z h7 sb "java/lang/AbstractStringBuilder" "value" "[B" (.ref bv) := f5_3.other W7 (Or.inr (slot_ne (Or.inl ow65) (Or.inl ow84) (by decide) (t := (.array .byte)) (t' := .int) (by decide) (by decide)))
  have f7_3 : Fld Z h7 sb "java/lang/AbstractStringBuilder" "count" "I" (.int 5) := f5_4.same W7
  have f7_8 : Arv Z h7 bv kb .byte (16 : Int32) [(.int w0), (.int w1), (.int w2), (.int w3), (.int w4), (.int 0), (.int 0), (.int 0), (.int 0), (.int 0), (.int 0), (.int 0), (.int 0), (.int 0), (.int 0), (.int 0)] (.int 0) := p5_0.other W7 (od_sb_bv.symm)
  have f7_9 : Sta Z h7 "java/lang/String" "COMPACT_STRINGS" "Z" (.int cz) := p5_1.wr W7
  have N7 := Fr.snoc X7 N5 g_sb
  have Z7 : n0 ≤ h7.size := Nat.le_trans Z5 (Keep.of_wr W7).1
  have K7 : Keep h0 h7 [sb, bv] := K5.wr W7 (Or.inl (List.mem_of_getElem? (i := 0) rfl))
  refine own_go (A := oW p e below T7 (oF_apA m 44 (oR sb) (oR ps) (oi 5) [(.ref sb)])) (fun t k => by
    refine XS.aloadN X7.here hx rfl (hb hby o822_43) rfl rfl ?_
    exact k) ?_
  obtain ⟨fs, hr, hrun, hended, hW, hsame⟩ := X7.leave (v := some (.ref sb)) (fun h => by rw [Bd.returns] at h; cases h)
  refine ⟨_, _, retOut X7 hx Bd.returns rfl (Or.inr (Or.inr (Or.inr (Or.inr ⟨rfl, rfl, rfl⟩)))) (hb hby o822_44) hr, hPf _ _ ⟨hrun, hended, _, _, rfl, ?_, ⟨_, rfl⟩, hW, hsame.mono (by decide) (by decide)⟩⟩
  show own_Q_apA Z sb ps cz pb bv kpb kb w0 w1 w2 w3 w4 h0 n0 _ T7.heap _
  rw [e7]
  exact ⟨rfl, N7, K7, f7_2, f7_1, f7_3, f7_8, f7_9⟩
abbrev oF_apB (m : MethodId) (pc : Nat) (a0 a1 : Slot) (S : List Value) : JFrame := mkF m pc #[a0, a1] S
theorem o677_0 : decode jdk_67_method_7_code 0 = .ok (.aload_n 0, 1) := by decide +kernel
theorem o677_1 : decode jdk_67_method_7_code 1 = .ok (.aload_n 1, 1) := by decide +kernel
theorem o677_2 : decode jdk_67_method_7_code 2 = .ok (.invokespecial 29, 3) := by decide +kernel
theorem own_pd_28Ljava2flang2fString3b29Ljava2flang2fAbstractStringBuilder3b : parseMethodDescriptor "(Ljava/lang/String;)Ljava/lang/AbstractStringBuilder;" = some ⟨[(.object "java/lang/String")], some (.object "java/lang/AbstractStringBuilder")⟩ := by decide +kernel
theorem o677_5 : decode jdk_67_method_7_code 5 = .ok (.pop, 1) := by decide +kernel
theorem o677_6 : decode jdk_67_method_7_code 6 = .ok (.aload_n 0, 1) := by decide +kernel
theorem o677_7 : decode jdk_67_method_7_code 7 = .ok (.areturn, 1) := by decide +kernel
theorem own_ef_apB (m : MethodId) (x0 : Addr) (x1 : Addr) : entryFrame m #[(.ref x0), (.ref x1)] 2 = mkF m 0 #[(oR x0), (oR x1)] [] := by first | (simp [entryFrame, mkF, argsToLocals, Value.category]; done) | rfl
def own_Q_apB (Z : State) (sb : Addr) (ps : Addr) (cz : Int32) (pb bv : Addr) (kpb kb : ClassId) (w0 w1 w2 w3 w4 : Int32) (h0 : Heap) (n0 : Nat) (v : Option Value) (h : Heap) (L : List Loc) : Prop := v = some (.ref sb) ∧ Fr n0 L ∧ Keep h0 h [sb, bv] ∧ Fld Z h sb "java/lang/AbstractStringBuilder" "value" "[B" (.ref bv) ∧ Fld Z h sb "java/lang/AbstractStringBuilder" "coder" "B" (.int 0) ∧ Fld Z h sb "java/lang/AbstractStringBuilder" "count" "I" (.int 5) ∧ Arv Z h bv kb .byte (16 : Int32) [(.int w0), (.int w1), (.int w2), (.int w3), (.int w4), (.int 0), (.int 0), (.int 0), (.int 0), (.int 0), (.int 0), (.int 0), (.int 0), (.int 0), (.int 0), (.int 0)] (.int 0) ∧ Sta Z h "java/lang/String" "COMPACT_STRINGS" "Z" (.int cz)
set_option maxRecDepth 65536 in
set_option maxHeartbeats 40000000 in
theorem own_rm_apB (l : Launch) (Z : State) (a0 : Array Value) (hw : ∀ d ∈ tables_1, d.before a0 Z = true) (ws : List Jvm.Cond) (sb : Addr) (ps : Addr) (cz : Int32) (pb bv : Addr) (kpb kb : ClassId) (w0 w1 w2 w3 w4 : Int32) (h0 : Heap) (n0 : Nat) (Z0 : n0 ≤ h0.size) (hnd : ([sb, ps, pb, bv] : List Addr).Nodup) (g_sb : n0 ≤ sb) (g_bv : n0 ≤ bv) (Sc0 : Sta Z h0 "java/lang/String" "COMPACT_STRINGS" "Z" (.int cz)) (hcz : ¬ cz = (0 : Int32)) (Eb0 : Exa Z h0 sb "java/lang/StringBuilder") (Fbc : Fld Z h0 sb "java/lang/AbstractStringBuilder" "coder" "B" (.int 0)) (Fbv : Fld Z h0 sb "java/lang/AbstractStringBuilder" "value" "[B" (.ref bv)) (Fbn : Fld Z h0 sb "java/lang/AbstractStringBuilder" "count" "I" (.int 0)) (Ex0 : Exa Z h0 ps "java/lang/String") (Fc0 : Fld Z h0 ps "java/lang/String" "coder" "B" (.int 0)) (Fv0 : Fld Z h0 ps "java/lang/String" "value" "[B" (.ref pb)) (Vb0 : Arv Z h0 pb kpb .byte (5 : Int32) [(.int w0), (.int w1), (.int w2), (.int w3), (.int w4)] (.int 0)) (Vv0 : Arv Z h0 bv kb .byte (16 : Int32) [(.int 0), (.int 0), (.int 0), (.int 0), (.int 0), (.int 0), (.int 0), (.int 0), (.int 0), (.int 0), (.int 0), (.int 0), (.int 0), (.int 0), (.int 0), (.int 0)] (.int 0)) :
    MetFree l (⟨"java/lang/StringBuilder", "append", "(Ljava/lang/String;)Ljava/lang/StringBuilder;"⟩ : MethodName) (head1 (Jvm.Cond.code (⟨"java/lang/StringBuilder", "append", "(Ljava/lang/String;)Ljava/lang/StringBuilder;"⟩ : MethodName) jdk_67_method_7_code 2 (some (.object "java/lang/StringBuilder")) :: ws) ({ frames := 4, cells := 0, slots := 0, locals := 107 } : Room)) (fun a U => a = #[(.ref sb), (.ref ps)] ∧ Z.Warmed39 U.vm ∧ U.heap = h0) (fun _ _ _ _ _ => True) (fun _ U o U' => ∃ v L, o = .returned v ∧ own_Q_apB Z sb ps cz pb bv kpb kb w0 w1 w2 w3 w4 h0 n0 v U'.heap L ∧ FrameEnd U o U' L ({ frames := 4, cells := 0, slots := 0, locals := 107 } : Room).cells ({ frames := 4, cells := 0, slots := 0, locals := 107 } : Room).slots) := by
  refine MetFree.of_bodySF (plainFor_of_name own_pn_java_lang_StringBuilder) hisR ?_
  intro p e s m args below meth c s₁ Bd hml0 hP hKq_
  obtain ⟨rfl, hZ, hh⟩ := hP
  have hx := Bd.exec
  have hby := Bd.bytes
  have hml : c.maxLocals = 2 := hml0
  have hown : s.vm.findClass "java/lang/StringBuilder" = some m.cls := findClass_of_methodNamed Bd.named
  have hnm := (name_of_methodNamed Bd.named Bd.method).1
  have ow57 := hw _ (List.mem_of_getElem? (i := 57) rfl)
  have ow77 := hw _ (List.mem_of_getElem? (i := 77) rfl)
  have ow78 := hw _ (List.mem_of_getElem? (i := 78) rfl)
  have ow79 := hw _ (List.mem_of_getElem? (i := 79) rfl)
  have ow81 := hw _ (List.mem_of_getElem? (i := 81) rfl)
  have ow88 := hw _ (List.mem_of_getElem? (i := 88) rfl)
  have X0 : Stand p l e ({ frames := 4, cells := 0, slots := 0, locals := 107 } : Room) s m #[(.ref sb), (.ref ps)] below meth c s₁ [] 0 0 := Stand.of_body Bd
  have e0 : s₁.heap = h0 := by rw [← hh, Bd.state]; rfl
  have N0 := Fr.nil n0
  have pre0 : ∀ t, Steps p.tables e below (s₁.setTop (mkF m 0 #[(oR sb), (oR ps)] [])) t → Steps p.tables e below (s₁.setTop (entryFrame m #[(.ref sb), (.ref ps)] 2)) t := fun t k => castTop (own_ef_apB m sb ps) k
  refine own_go pre0 ?_
  refine own_abs ?_
  intro Pf hPf
  have od_sb_bv : sb ≠ bv := (own_nd hnd (i := 0) (j := 3) rfl rfl (by decide))
  have nn_pb : pb ∉ ([sb, bv] : List Addr) := (ninS (own_nd hnd (i := 2) (j := 0) rfl rfl (by decide)) (ninS (own_nd hnd (i := 2) (j := 3) rfl rfl (by decide)) nin0))
  have nn_ps : ps ∉ ([sb, bv] : List Addr) := (ninS (own_nd hnd (i := 1) (j := 0) rfl rfl (by decide)) (ninS (own_nd hnd (i := 1) (j := 3) rfl rfl (by decide)) nin0))
  refine own_go (A := oW p e below s₁ (oF_apB m 2 (oR sb) (oR ps) [(.ref ps), (.ref sb)])) (fun t k => by
    refine XS.aloadN X0.here hx rfl (hb hby o677_0) rfl rfl ?_
    show oW p e below s₁ (oF_apB m 1 (oR sb) (oR ps) [(.ref sb)]) _
    refine XS.aloadN X0.here hx rfl (hb hby o677_1) rfl rfl ?_
    exact k) ?_
  obtain ⟨_, _, ⟨T1, L1, k1, n1⟩, -, X1, ⟨Lc1, hQ1, l1, y1, z1⟩, st1⟩ := superBack X0 hx hZ (y := (⟨"java/lang/AbstractStringBuilder", "append", "(Ljava/lang/String;)Ljava/lang/AbstractStringBuilder;"⟩ : MethodName)) hown ow77 (own_same (y := (⟨"java/lang/AbstractStringBuilder", "append", "(Ljava/lang/String;)Ljava/lang/AbstractStringBuilder;"⟩ : MethodName)) (w := (⟨"java/lang/AbstractStringBuilder", "ensureCapacityInternal", "(I)V"⟩ : MethodName)) ow78 ow88 rfl (by decide)) ow78 ow79 (by decide) (backOf (W := 0) (own_rm_apA l Z a0 hw [] sb ps cz pb bv kpb kb w0 w1 w2 w3 w4 h0 n0 Z0 (own_ndS (ninS (own_nd hnd (i := 0) (j := 1) rfl rfl (by decide)) (ninS (own_nd hnd (i := 0) (j := 2) rfl rfl (by decide)) (ninS od_sb_bv nin0))) (own_ndS (ninS (own_nd hnd (i := 1) (j := 2) rfl rfl (by decide)) (ninS (own_nd hnd (i := 1) (j := 3) rfl rfl (by decide)) nin0)) (own_ndS (ninS (own_nd hnd (i := 2) (j := 3) rfl rfl (by decide)) nin0) (own_ndS nin0 List.nodup_nil)))) g_sb g_bv Sc0 hcz Eb0 Fbc Fbv Fbn Ex0 Fc0 Fv0 Vb0 Vv0) hZ ow81 ow57 (by decide) (by decide)) e0 (Ins.self Eb0) (g := (oF_apB m 2 (oR sb) (oR ps) [(.ref ps), (.ref sb)])) rfl (by rw [hml]; rfl) ow81 (argsL := [(.ref ps)]) (rest := []) (lenOf own_pd_28Ljava2flang2fString3b29Ljava2flang2fAbstractStringBuilder3b rfl) rfl (by show 2 * 0 + _ ≤ _; exact Nat.le_of_eq rfl) (hb hby o677_2) (fun _ _ => ⟨rfl, e0, (by decide : 0 + 0 ≤ _), (by decide : 0 + 0 ≤ _)⟩)
  dsimp only [Pt.U, Pt.locs, Pt.cells, Pt.slots] at X1 l1 y1 z1 st1 hQ1
  subst l1 y1 z1
  obtain ⟨rfl, N1q, K1q, p1_0, p1_1, p1_2, p1_3, p1_4⟩ := hQ1
  have N1 := Fr.app N0 N1q
  have Z1 : n0 ≤ T1.heap.size := Nat.le_trans Z0 K1q.1
  have K1 : Keep h0 T1.heap [sb, bv] := (Keep.refl h0 [sb, bv]).trans K1q (allS (Or.inl (List.mem_of_getElem? (i := 0) rfl)) (allS (Or.inl (List.mem_of_getElem? (i := 1) rfl)) all0))
  refine own_go (fun _ k => st1.trans k) ?_
  refine own_go (A := oW p e below T1 (oF_apB m 7 (oR sb) (oR ps) [(.ref sb)])) (fun t k => by
    refine XS.pop X1.here hx rfl (hb hby o677_5) rfl rfl ?_
    show oW p e below T1 (oF_apB m 6 (oR sb) (oR ps) []) _
    refine XS.aloadN X1.here hx rfl (hb hby o677_6) rfl rfl ?_
    exact k) ?_
  obtain ⟨fs, hr, hrun, hended, hW, hsame⟩ := X1.leave (v := some (.ref sb)) (fun h => by rw [Bd.returns] at h; cases h)
  refine ⟨_, _, retOut X1 hx Bd.returns rfl (Or.inr (Or.inr (Or.inr (Or.inr ⟨rfl, rfl, rfl⟩)))) (hb hby o677_7) hr, hPf _ _ ⟨hrun, hended, _, _, rfl, ?_, ⟨_, rfl⟩, hW, hsame.mono (by decide) (by decide)⟩⟩
  show own_Q_apB Z sb ps cz pb bv kpb kb w0 w1 w2 w3 w4 h0 n0 _ T1.heap _
  exact ⟨rfl, N1, K1, p1_0, p1_1, p1_2, p1_3, p1_4⟩
abbrev oF_size6 (m : MethodId) (pc : Nat) (a0 a1 a2 a3 : Slot) (S : List Value) : JFrame := mkF m pc #[a0, a1, a2, a3] S
theorem o313_0 : decode jdk_33_method_13_code 0 = .ok (.iconst 1, 1) := by decide +kernel
theorem o313_1 : decode jdk_33_method_13_code 1 = .ok (.istore_n 1, 1) := by decide +kernel
theorem o313_2 : decode jdk_33_method_13_code 2 = .ok (.iload_n 0, 1) := by decide +kernel
theorem o313_3 : decode jdk_33_method_13_code 3 = .ok (.ifCond .lt 8, 3) := by decide +kernel
theorem o313_6 : decode jdk_33_method_13_code 6 = .ok (.iconst 0, 1) := by decide +kernel
theorem o313_7 : decode jdk_33_method_13_code 7 = .ok (.istore_n 1, 1) := by decide +kernel
theorem o313_8 : decode jdk_33_method_13_code 8 = .ok (.iload_n 0, 1) := by decide +kernel
theorem o313_9 : decode jdk_33_method_13_code 9 = .ok (.ineg, 1) := by decide +kernel
theorem o313_10 : decode jdk_33_method_13_code 10 = .ok (.istore_n 0, 1) := by decide +kernel
theorem o313_11 : decode jdk_33_method_13_code 11 = .ok (.bipush (-10), 2) := by decide +kernel
theorem o313_13 : decode jdk_33_method_13_code 13 = .ok (.istore_n 2, 1) := by decide +kernel
theorem o313_14 : decode jdk_33_method_13_code 14 = .ok (.iconst 1, 1) := by decide +kernel
theorem o313_15 : decode jdk_33_method_13_code 15 = .ok (.istore_n 3, 1) := by decide +kernel
theorem o313_16 : decode jdk_33_method_13_code 16 = .ok (.iload_n 3, 1) := by decide +kernel
theorem o313_17 : decode jdk_33_method_13_code 17 = .ok (.bipush 10, 2) := by decide +kernel
theorem o313_19 : decode jdk_33_method_13_code 19 = .ok (.if_icmp .ge 23, 3) := by decide +kernel
theorem o313_22 : decode jdk_33_method_13_code 22 = .ok (.iload_n 0, 1) := by decide +kernel
theorem o313_23 : decode jdk_33_method_13_code 23 = .ok (.iload_n 2, 1) := by decide +kernel
theorem o313_24 : decode jdk_33_method_13_code 24 = .ok (.if_icmp .le 7, 3) := by decide +kernel
theorem o313_27 : decode jdk_33_method_13_code 27 = .ok (.iload_n 3, 1) := by decide +kernel
theorem o313_28 : decode jdk_33_method_13_code 28 = .ok (.iload_n 1, 1) := by decide +kernel
theorem o313_29 : decode jdk_33_method_13_code 29 = .ok (.iadd, 1) := by decide +kernel
theorem o313_30 : decode jdk_33_method_13_code 30 = .ok (.ireturn, 1) := by decide +kernel
theorem own_ef_size6 (m : MethodId) (x0 : Int32) : entryFrame m #[(.int x0)] 4 = mkF m 0 #[(oi x0), .unset, .unset, .unset] [] := by first | (simp [entryFrame, mkF, argsToLocals, Value.category]; done) | rfl
def own_Q_size6 (Z : State)  (h0 : Heap) (n0 : Nat) (v : Option Value) (h : Heap) (L : List Loc) : Prop := v = some (.int 1) ∧ Fr n0 L ∧ h = h0
theorem own_pn_java_lang_Integer : plainName "java/lang/Integer" = true := by first | (simp [plainName, overriddenIn]; done) | decide +kernel
set_option maxRecDepth 65536 in
set_option maxHeartbeats 40000000 in
theorem own_rm_size6 (l : Launch) (Z : State) (a0 : Array Value) (hw : ∀ d ∈ tables_1, d.before a0 Z = true) (ws : List Jvm.Cond)  (h0 : Heap) (n0 : Nat) (Z0 : n0 ≤ h0.size) :
    MetFree l (⟨"java/lang/Integer", "stringSize", "(I)I"⟩ : MethodName) (head1 (Jvm.Cond.code (⟨"java/lang/Integer", "stringSize", "(I)I"⟩ : MethodName) jdk_33_method_13_code 4 (some .int) :: ws) ({ frames := 0, cells := 0, slots := 0, locals := 0 } : Room)) (fun a U => a = #[(.int 6)] ∧ Z.Warmed39 U.vm ∧ U.heap = h0) (fun _ _ _ _ _ => True) (fun _ U o U' => ∃ v L, o = .returned v ∧ own_Q_size6 Z  h0 n0 v U'.heap L ∧ FrameEnd U o U' L ({ frames := 0, cells := 0, slots := 0, locals := 0 } : Room).cells ({ frames := 0, cells := 0, slots := 0, locals := 0 } : Room).slots) := by
  refine MetFree.of_bodySF (plainFor_of_name own_pn_java_lang_Integer) hisR ?_
  intro p e s m args below meth c s₁ Bd hml0 hP hKq_
  obtain ⟨rfl, hZ, hh⟩ := hP
  have hx := Bd.exec
  have hby := Bd.bytes
  have hml : c.maxLocals = 4 := hml0
  have hown : s.vm.findClass "java/lang/Integer" = some m.cls := findClass_of_methodNamed Bd.named
  have hnm := (name_of_methodNamed Bd.named Bd.method).1
  have X0 : Stand p l e ({ frames := 0, cells := 0, slots := 0, locals := 0 } : Room) s m #[(.int 6)] below meth c s₁ [] 0 0 := Stand.of_body Bd
  have e0 : s₁.heap = h0 := by rw [← hh, Bd.state]; rfl
  have N0 := Fr.nil n0
  have pre0 : ∀ t, Steps p.tables e below (s₁.setTop (mkF m 0 #[(oi 6), .unset, .unset, .unset] [])) t → Steps p.tables e below (s₁.setTop (entryFrame m #[(.int 6)] 4)) t := fun t k => castTop (own_ef_size6 m (6 : Int32)) k
  refine own_go pre0 ?_
  refine own_abs ?_
  intro Pf hPf
  refine own_go (A := oW p e below s₁ (oF_size6 m 30 (oi (-6)) (oi 0) (oi (-10)) (oi 1) [(.int 1)])) (fun t k => by
    refine XS.iconst X0.here hx rfl (hb hby o313_0) ?_
    show oW p e below s₁ (oF_size6 m 1 (oi 6) .unset .unset .unset [(.int 1)]) _
    refine XS.istoreN X0.here hx rfl (hb hby o313_1) rfl (l' := #[(oi 6), (oi 1), .unset, .unset]) rfl ?_
    show oW p e below s₁ (oF_size6 m 2 (oi 6) (oi 1) .unset .unset []) _
    refine XS.iloadN X0.here hx rfl (hb hby o313_2) rfl ?_
    show oW p e below s₁ (oF_size6 m 3 (oi 6) (oi 1) .unset .unset [(.int 6)]) _
    refine XS.ifNo X0.here hx rfl (hb hby o313_3) rfl ((if0 _ _).trans (flt (by decide : ¬ ((6 : Int32) < (0 : Int32)))).1) ?_
    show oW p e below s₁ (oF_size6 m 6 (oi 6) (oi 1) .unset .unset []) _
    refine XS.iconst X0.here hx rfl (hb hby o313_6) ?_
    show oW p e below s₁ (oF_size6 m 7 (oi 6) (oi 1) .unset .unset [(.int 0)]) _
    refine XS.istoreN X0.here hx rfl (hb hby o313_7) rfl (l' := #[(oi 6), (oi 0), .unset, .unset]) rfl ?_
    show oW p e below s₁ (oF_size6 m 8 (oi 6) (oi 0) .unset .unset []) _
    refine XS.iloadN X0.here hx rfl (hb hby o313_8) rfl ?_
    show oW p e below s₁ (oF_size6 m 9 (oi 6) (oi 0) .unset .unset [(.int 6)]) _
    refine XS.ineg X0.here hx rfl (hb hby o313_9) rfl ?_
    show oW p e below s₁ (oF_size6 m 10 (oi 6) (oi 0) .unset .unset [(.int (-6))]) _
    refine XS.istoreN X0.here hx rfl (hb hby o313_10) rfl (l' := #[(oi (-6)), (oi 0), .unset, .unset]) rfl ?_
    show oW p e below s₁ (oF_size6 m 11 (oi (-6)) (oi 0) .unset .unset []) _
    refine XS.bipush X0.here hx rfl (hb hby o313_11) ?_
    show oW p e below s₁ (oF_size6 m 13 (oi (-6)) (oi 0) .unset .unset [(.int (-10))]) _
    refine XS.istoreN X0.here hx rfl (hb hby o313_13) rfl (l' := #[(oi (-6)), (oi 0), (oi (-10)), .unset]) rfl ?_
    show oW p e below s₁ (oF_size6 m 14 (oi (-6)) (oi 0) (oi (-10)) .unset []) _
    refine XS.iconst X0.here hx rfl (hb hby o313_14) ?_
    show oW p e below s₁ (oF_size6 m 15 (oi (-6)) (oi 0) (oi (-10)) .unset [(.int 1)]) _
    refine XS.istoreN X0.here hx rfl (hb hby o313_15) rfl (l' := #[(oi (-6)), (oi 0), (oi (-10)), (oi 1)]) rfl ?_
    show oW p e below s₁ (oF_size6 m 16 (oi (-6)) (oi 0) (oi (-10)) (oi 1) []) _
    refine XS.iloadN X0.here hx rfl (hb hby o313_16) rfl ?_
    show oW p e below s₁ (oF_size6 m 17 (oi (-6)) (oi 0) (oi (-10)) (oi 1) [(.int 1)]) _
    refine XS.bipush X0.here hx rfl (hb hby o313_17) ?_
    show oW p e below s₁ (oF_size6 m 19 (oi (-6)) (oi 0) (oi (-10)) (oi 1) [(.int 10), (.int 1)]) _
    refine XS.icmpNo X0.here hx rfl (hb hby o313_19) rfl (tlt (by decide : (1 : Int32) < (10 : Int32))).2.1 ?_
    show oW p e below s₁ (oF_size6 m 22 (oi (-6)) (oi 0) (oi (-10)) (oi 1) []) _
    refine XS.iloadN X0.here hx rfl (hb hby o313_22) rfl ?_
    show oW p e below s₁ (oF_size6 m 23 (oi (-6)) (oi 0) (oi (-10)) (oi 1) [(.int (-6))]) _
    refine XS.iloadN X0.here hx rfl (hb hby o313_23) rfl ?_
    show oW p e below s₁ (oF_size6 m 24 (oi (-6)) (oi 0) (oi (-10)) (oi 1) [(.int (-10)), (.int (-6))]) _
    refine XS.icmpNo X0.here hx rfl (hb hby o313_24) rfl (tlt (by decide : (-10 : Int32) < (-6 : Int32))).2.2.2 ?_
    show oW p e below s₁ (oF_size6 m 27 (oi (-6)) (oi 0) (oi (-10)) (oi 1) []) _
    refine XS.iloadN X0.here hx rfl (hb hby o313_27) rfl ?_
    show oW p e below s₁ (oF_size6 m 28 (oi (-6)) (oi 0) (oi (-10)) (oi 1) [(.int 1)]) _
    refine XS.iloadN X0.here hx rfl (hb hby o313_28) rfl ?_
    show oW p e below s₁ (oF_size6 m 29 (oi (-6)) (oi 0) (oi (-10)) (oi 1) [(.int 0), (.int 1)]) _
    refine XS.iadd X0.here hx rfl (hb hby o313_29) rfl ?_
    exact k) ?_
  obtain ⟨fs, hr, hrun, hended, hW, hsame⟩ := X0.leave (v := some (.int 1)) (fun h => by rw [Bd.returns] at h; cases h)
  refine ⟨_, _, retOut X0 hx Bd.returns rfl (Or.inl ⟨rfl, Or.inl rfl, _, rfl⟩) (hb hby o313_30) hr, hPf _ _ ⟨hrun, hended, _, _, rfl, ?_, ⟨_, rfl⟩, hW, hsame.mono (by decide) (by decide)⟩⟩
  show own_Q_size6 Z  h0 n0 _ s₁.heap _
  rw [e0]
  exact ⟨rfl, N0, rfl⟩
abbrev oF_size7 (m : MethodId) (pc : Nat) (a0 a1 a2 a3 : Slot) (S : List Value) : JFrame := mkF m pc #[a0, a1, a2, a3] S
theorem own_ef_size7 (m : MethodId) (x0 : Int32) : entryFrame m #[(.int x0)] 4 = mkF m 0 #[(oi x0), .unset, .unset, .unset] [] := by first | (simp [entryFrame, mkF, argsToLocals, Value.category]; done) | rfl
def own_Q_size7 (Z : State)  (h0 : Heap) (n0 : Nat) (v : Option Value) (h : Heap) (L : List Loc) : Prop := v = some (.int 1) ∧ Fr n0 L ∧ h = h0
set_option maxRecDepth 65536 in
set_option maxHeartbeats 40000000 in
theorem own_rm_size7 (l : Launch) (Z : State) (a0 : Array Value) (hw : ∀ d ∈ tables_1, d.before a0 Z = true) (ws : List Jvm.Cond)  (h0 : Heap) (n0 : Nat) (Z0 : n0 ≤ h0.size) :
    MetFree l (⟨"java/lang/Integer", "stringSize", "(I)I"⟩ : MethodName) (head1 (Jvm.Cond.code (⟨"java/lang/Integer", "stringSize", "(I)I"⟩ : MethodName) jdk_33_method_13_code 4 (some .int) :: ws) ({ frames := 0, cells := 0, slots := 0, locals := 0 } : Room)) (fun a U => a = #[(.int 7)] ∧ Z.Warmed39 U.vm ∧ U.heap = h0) (fun _ _ _ _ _ => True) (fun _ U o U' => ∃ v L, o = .returned v ∧ own_Q_size7 Z  h0 n0 v U'.heap L ∧ FrameEnd U o U' L ({ frames := 0, cells := 0, slots := 0, locals := 0 } : Room).cells ({ frames := 0, cells := 0, slots := 0, locals := 0 } : Room).slots) := by
  refine MetFree.of_bodySF (plainFor_of_name own_pn_java_lang_Integer) hisR ?_
  intro p e s m args below meth c s₁ Bd hml0 hP hKq_
  obtain ⟨rfl, hZ, hh⟩ := hP
  have hx := Bd.exec
  have hby := Bd.bytes
  have hml : c.maxLocals = 4 := hml0
  have hown : s.vm.findClass "java/lang/Integer" = some m.cls := findClass_of_methodNamed Bd.named
  have hnm := (name_of_methodNamed Bd.named Bd.method).1
  have X0 : Stand p l e ({ frames := 0, cells := 0, slots := 0, locals := 0 } : Room) s m #[(.int 7)] below meth c s₁ [] 0 0 := Stand.of_body Bd
  have e0 : s₁.heap = h0 := by rw [← hh, Bd.state]; rfl
  have N0 := Fr.nil n0
  have pre0 : ∀ t, Steps p.tables e below (s₁.setTop (mkF m 0 #[(oi 7), .unset, .unset, .unset] [])) t → Steps p.tables e below (s₁.setTop (entryFrame m #[(.int 7)] 4)) t := fun t k => castTop (own_ef_size7 m (7 : Int32)) k
  refine own_go pre0 ?_
  refine own_abs ?_
  intro Pf hPf
  refine own_go (A := oW p e below s₁ (oF_size7 m 30 (oi (-7)) (oi 0) (oi (-10)) (oi 1) [(.int 1)])) (fun t k => by
    refine XS.iconst X0.here hx rfl (hb hby o313_0) ?_
    show oW p e below s₁ (oF_size7 m 1 (oi 7) .unset .unset .unset [(.int 1)]) _
    refine XS.istoreN X0.here hx rfl (hb hby o313_1) rfl (l' := #[(oi 7), (oi 1), .unset, .unset]) rfl ?_
    show oW p e below s₁ (oF_size7 m 2 (oi 7) (oi 1) .unset .unset []) _
    refine XS.iloadN X0.here hx rfl (hb hby o313_2) rfl ?_
    show oW p e below s₁ (oF_size7 m 3 (oi 7) (oi 1) .unset .unset [(.int 7)]) _
    refine XS.ifNo X0.here hx rfl (hb hby o313_3) rfl ((if0 _ _).trans (flt (by decide : ¬ ((7 : Int32) < (0 : Int32)))).1) ?_
    show oW p e below s₁ (oF_size7 m 6 (oi 7) (oi 1) .unset .unset []) _
    refine XS.iconst X0.here hx rfl (hb hby o313_6) ?_
    show oW p e below s₁ (oF_size7 m 7 (oi 7) (oi 1) .unset .unset [(.int 0)]) _
    refine XS.istoreN X0.here hx rfl (hb hby o313_7) rfl (l' := #[(oi 7), (oi 0), .unset, .unset]) rfl ?_
    show oW p e below s₁ (oF_size7 m 8 (oi 7) (oi 0) .unset .unset []) _
    refine XS.iloadN X0.here hx rfl (hb hby o313_8) rfl ?_
    show oW p e below s₁ (oF_size7 m 9 (oi 7) (oi 0) .unset .unset [(.int 7)]) _
    refine XS.ineg X0.here hx rfl (hb hby o313_9) rfl ?_
    show oW p e below s₁ (oF_size7 m 10 (oi 7) (oi 0) .unset .unset [(.int (-7))]) _
    refine XS.istoreN X0.here hx rfl (hb hby o313_10) rfl (l' := #[(oi (-7)), (oi 0), .unset, .unset]) rfl ?_
    show oW p e below s₁ (oF_size7 m 11 (oi (-7)) (oi 0) .unset .unset []) _
    refine XS.bipush X0.here hx rfl (hb hby o313_11) ?_
    show oW p e below s₁ (oF_size7 m 13 (oi (-7)) (oi 0) .unset .unset [(.int (-10))]) _
    refine XS.istoreN X0.here hx rfl (hb hby o313_13) rfl (l' := #[(oi (-7)), (oi 0), (oi (-10)), .unset]) rfl ?_
    show oW p e below s₁ (oF_size7 m 14 (oi (-7)) (oi 0) (oi (-10)) .unset []) _
    refine XS.iconst X0.here hx rfl (hb hby o313_14) ?_
    show oW p e below s₁ (oF_size7 m 15 (oi (-7)) (oi 0) (oi (-10)) .unset [(.int 1)]) _
    refine XS.istoreN X0.here hx rfl (hb hby o313_15) rfl (l' := #[(oi (-7)), (oi 0), (oi (-10)), (oi 1)]) rfl ?_
    show oW p e below s₁ (oF_size7 m 16 (oi (-7)) (oi 0) (oi (-10)) (oi 1) []) _
    refine XS.iloadN X0.here hx rfl (hb hby o313_16) rfl ?_
    show oW p e below s₁ (oF_size7 m 17 (oi (-7)) (oi 0) (oi (-10)) (oi 1) [(.int 1)]) _
    refine XS.bipush X0.here hx rfl (hb hby o313_17) ?_
    show oW p e below s₁ (oF_size7 m 19 (oi (-7)) (oi 0) (oi (-10)) (oi 1) [(.int 10), (.int 1)]) _
    refine XS.icmpNo X0.here hx rfl (hb hby o313_19) rfl (tlt (by decide : (1 : Int32) < (10 : Int32))).2.1 ?_
    show oW p e below s₁ (oF_size7 m 22 (oi (-7)) (oi 0) (oi (-10)) (oi 1) []) _
    refine XS.iloadN X0.here hx rfl (hb hby o313_22) rfl ?_
    show oW p e below s₁ (oF_size7 m 23 (oi (-7)) (oi 0) (oi (-10)) (oi 1) [(.int (-7))]) _
    refine XS.iloadN X0.here hx rfl (hb hby o313_23) rfl ?_
    show oW p e below s₁ (oF_size7 m 24 (oi (-7)) (oi 0) (oi (-10)) (oi 1) [(.int (-10)), (.int (-7))]) _
    refine XS.icmpNo X0.here hx rfl (hb hby o313_24) rfl (tlt (by decide : (-10 : Int32) < (-7 : Int32))).2.2.2 ?_
    show oW p e below s₁ (oF_size7 m 27 (oi (-7)) (oi 0) (oi (-10)) (oi 1) []) _
    refine XS.iloadN X0.here hx rfl (hb hby o313_27) rfl ?_
    show oW p e below s₁ (oF_size7 m 28 (oi (-7)) (oi 0) (oi (-10)) (oi 1) [(.int 1)]) _
    refine XS.iloadN X0.here hx rfl (hb hby o313_28) rfl ?_
    show oW p e below s₁ (oF_size7 m 29 (oi (-7)) (oi 0) (oi (-10)) (oi 1) [(.int 0), (.int 1)]) _
    refine XS.iadd X0.here hx rfl (hb hby o313_29) rfl ?_
    exact k) ?_
  obtain ⟨fs, hr, hrun, hended, hW, hsame⟩ := X0.leave (v := some (.int 1)) (fun h => by rw [Bd.returns] at h; cases h)
  refine ⟨_, _, retOut X0 hx Bd.returns rfl (Or.inl ⟨rfl, Or.inl rfl, _, rfl⟩) (hb hby o313_30) hr, hPf _ _ ⟨hrun, hended, _, _, rfl, ?_, ⟨_, rfl⟩, hW, hsame.mono (by decide) (by decide)⟩⟩
  show own_Q_size7 Z  h0 n0 _ s₁.heap _
  rw [e0]
  exact ⟨rfl, N0, rfl⟩
abbrev oF_isLB (m : MethodId) (pc : Nat) (a0 : Slot) (S : List Value) : JFrame := mkF m pc #[a0] S
theorem o868_0 : decode jdk_68_method_68_code 0 = .ok (.getstatic 18, 3) := by decide +kernel
theorem o868_3 : decode jdk_68_method_68_code 3 = .ok (.ifCond .eq 14, 3) := by decide +kernel
theorem o868_6 : decode jdk_68_method_68_code 6 = .ok (.aload_n 0, 1) := by decide +kernel
theorem o868_7 : decode jdk_68_method_68_code 7 = .ok (.getfield 22, 3) := by decide +kernel
theorem o868_10 : decode jdk_68_method_68_code 10 = .ok (.ifCond .ne 7, 3) := by decide +kernel
theorem o868_13 : decode jdk_68_method_68_code 13 = .ok (.iconst 1, 1) := by decide +kernel
theorem o868_14 : decode jdk_68_method_68_code 14 = .ok (.goto 4, 3) := by decide +kernel
theorem o868_18 : decode jdk_68_method_68_code 18 = .ok (.ireturn, 1) := by decide +kernel
theorem own_ef_isLB (m : MethodId) (x0 : Addr) : entryFrame m #[(.ref x0)] 1 = mkF m 0 #[(oR x0)] [] := by first | (simp [entryFrame, mkF, argsToLocals, Value.category]; done) | rfl
def own_Q_isLB (Z : State) (sb : Addr) (cz : Int32) (h0 : Heap) (n0 : Nat) (v : Option Value) (h : Heap) (L : List Loc) : Prop := v = some (.int 1) ∧ Fr n0 L ∧ h = h0
set_option maxRecDepth 65536 in
set_option maxHeartbeats 40000000 in
theorem own_rm_isLB (l : Launch) (Z : State) (a0 : Array Value) (hw : ∀ d ∈ tables_1, d.before a0 Z = true) (ws : List Jvm.Cond) (sb : Addr) (cz : Int32) (h0 : Heap) (n0 : Nat) (Z0 : n0 ≤ h0.size) (Sc0 : Sta Z h0 "java/lang/String" "COMPACT_STRINGS" "Z" (.int cz)) (hcz : ¬ cz = (0 : Int32)) (Eb0 : Exa Z h0 sb "java/lang/StringBuilder") (Fbc : Fld Z h0 sb "java/lang/AbstractStringBuilder" "coder" "B" (.int 0)) :
    MetFree l (⟨"java/lang/AbstractStringBuilder", "isLatin1", "()Z"⟩ : MethodName) (head1 (Jvm.Cond.code (⟨"java/lang/AbstractStringBuilder", "isLatin1", "()Z"⟩ : MethodName) jdk_68_method_68_code 1 (some .boolean) :: ws) ({ frames := 0, cells := 0, slots := 0, locals := 0 } : Room)) (fun a U => a = #[(.ref sb)] ∧ Z.Warmed39 U.vm ∧ U.heap = h0) (fun _ _ _ _ _ => True) (fun _ U o U' => ∃ v L, o = .returned v ∧ own_Q_isLB Z sb cz h0 n0 v U'.heap L ∧ FrameEnd U o U' L ({ frames := 0, cells := 0, slots := 0, locals := 0 } : Room).cells ({ frames := 0, cells := 0, slots := 0, locals := 0 } : Room).slots) := by
  refine MetFree.of_bodySF (plainFor_of_name own_pn_java_lang_AbstractStringBuilder) hisR ?_
  intro p e s m args below meth c s₁ Bd hml0 hP hKq_
  obtain ⟨rfl, hZ, hh⟩ := hP
  have hx := Bd.exec
  have hby := Bd.bytes
  have hml : c.maxLocals = 1 := hml0
  have hown : s.vm.findClass "java/lang/AbstractStringBuilder" = some m.cls := findClass_of_methodNamed Bd.named
  have hnm := (name_of_methodNamed Bd.named Bd.method).1
  have ow62 := hw _ (List.mem_of_getElem? (i := 62) rfl)
  have ow66 := hw _ (List.mem_of_getElem? (i := 66) rfl)
  have X0 : Stand p l e ({ frames := 0, cells := 0, slots := 0, locals := 0 } : Room) s m #[(.ref sb)] below meth c s₁ [] 0 0 := Stand.of_body Bd
  have e0 : s₁.heap = h0 := by rw [← hh, Bd.state]; rfl
  have N0 := Fr.nil n0
  have pre0 : ∀ t, Steps p.tables e below (s₁.setTop (mkF m 0 #[(oR sb)] [])) t → Steps p.tables e below (s₁.setTop (entryFrame m #[(.ref sb)] 1)) t := fun t k => castTop (own_ef_isLB m sb) k
  refine own_go pre0 ?_
  refine own_abs ?_
  intro Pf hPf
  obtain ⟨T1, X1, e1, st1⟩ := getS2 X0 hx hZ hown (host := "") (Or.inl ow62) Via.refl e0 Sc0 (g := (oF_isLB m 0 (oR sb) [])) rfl (hb hby o868_0)
  refine own_go st1 ?_
  refine own_go (A := oW p e below T1 (oF_isLB m 7 (oR sb) [(.ref sb)])) (fun t k => by
    refine XS.ifNo X1.here hx rfl (hb hby o868_3) rfl ((if0 _ _).trans (feq hcz).1) ?_
    show oW p e below T1 (oF_isLB m 6 (oR sb) []) _
    refine XS.aloadN X1.here hx rfl (hb hby o868_6) rfl rfl ?_
    exact k) ?_
  obtain ⟨T2, X2, e2, st2⟩ := getF X1 hx hZ hown (host := "") (Or.inl ow66) Via.refl e1 Fbc (g := (oF_isLB m 7 (oR sb) [(.ref sb)])) rfl rfl (hb hby o868_7)
  refine own_go st2 ?_
  refine own_go (A := oW p e below T2 (oF_isLB m 18 (oR sb) [(.int 1)])) (fun t k => by
    refine XS.ifNo X2.here hx rfl (hb hby o868_10) rfl ((if0 _ _).trans (teq (by decide : (0 : Int32) = (0 : Int32))).2) ?_
    show oW p e below T2 (oF_isLB m 13 (oR sb) []) _
    refine XS.iconst X2.here hx rfl (hb hby o868_13) ?_
    show oW p e below T2 (oF_isLB m 14 (oR sb) [(.int 1)]) _
    refine XS.goto X2.here hx rfl (pc0 := 14) (pc' := 18) rfl (hb hby o868_14) (by decide) (by decide) ?_
    exact k) ?_
  obtain ⟨fs, hr, hrun, hended, hW, hsame⟩ := X2.leave (v := some (.int (nar .boolean (1 : Int32)))) (fun h => by rw [Bd.returns] at h; cases h)
  refine ⟨_, _, retN X2 hx (t := .boolean) Bd.returns (by simp) (hb hby o868_18) hr, hPf _ _ ⟨hrun, hended, _, _, rfl, ?_, ⟨_, rfl⟩, hW, hsame.mono (by decide) (by decide)⟩⟩
  show own_Q_isLB Z sb cz h0 n0 _ T2.heap _
  rw [e2]
  exact ⟨rfl, N0, rfl⟩
abbrev oF_getC6 (m : MethodId) (pc : Nat) (a0 a1 a2 a3 a4 a5 a6 : Slot) (S : List Value) : JFrame := mkF m pc #[a0, a1, a2, a3, a4, a5, a6] S
theorem o312_0 : decode jdk_33_method_12_code 0 = .ok (.iload_n 1, 1) := by decide +kernel
theorem o312_1 : decode jdk_33_method_12_code 1 = .ok (.istore 5, 2) := by decide +kernel
theorem o312_3 : decode jdk_33_method_12_code 3 = .ok (.iload_n 0, 1) := by decide +kernel
theorem o312_4 : decode jdk_33_method_12_code 4 = .ok (.ifCond .ge 7, 3) := by decide +kernel
theorem o312_11 : decode jdk_33_method_12_code 11 = .ok (.iconst 0, 1) := by decide +kernel
theorem o312_12 : decode jdk_33_method_12_code 12 = .ok (.istore 6, 2) := by decide +kernel
theorem o312_14 : decode jdk_33_method_12_code 14 = .ok (.iload 6, 2) := by decide +kernel
theorem o312_16 : decode jdk_33_method_12_code 16 = .ok (.ifCond .ne 6, 3) := by decide +kernel
theorem o312_19 : decode jdk_33_method_12_code 19 = .ok (.iload_n 0, 1) := by decide +kernel
theorem o312_20 : decode jdk_33_method_12_code 20 = .ok (.ineg, 1) := by decide +kernel
theorem o312_21 : decode jdk_33_method_12_code 21 = .ok (.istore_n 0, 1) := by decide +kernel
theorem o312_22 : decode jdk_33_method_12_code 22 = .ok (.iload_n 0, 1) := by decide +kernel
theorem o312_23 : decode jdk_33_method_12_code 23 = .ok (.bipush (-100), 2) := by decide +kernel
theorem o312_25 : decode jdk_33_method_12_code 25 = .ok (.if_icmp .gt 47, 3) := by decide +kernel
theorem o312_72 : decode jdk_33_method_12_code 72 = .ok (.aload_n 2, 1) := by decide +kernel
theorem o312_73 : decode jdk_33_method_12_code 73 = .ok (.iinc 5 (-1), 3) := by decide +kernel
theorem o312_76 : decode jdk_33_method_12_code 76 = .ok (.iload 5, 2) := by decide +kernel
theorem o312_78 : decode jdk_33_method_12_code 78 = .ok (.getstatic 83, 3) := by decide +kernel
theorem o312_81 : decode jdk_33_method_12_code 81 = .ok (.iload_n 0, 1) := by decide +kernel
theorem o312_82 : decode jdk_33_method_12_code 82 = .ok (.ineg, 1) := by decide +kernel
theorem o312_83 : decode jdk_33_method_12_code 83 = .ok (.baload, 1) := by decide +kernel
theorem o312_84 : decode jdk_33_method_12_code 84 = .ok (.bastore, 1) := by decide +kernel
theorem o312_85 : decode jdk_33_method_12_code 85 = .ok (.iload_n 0, 1) := by decide +kernel
theorem o312_86 : decode jdk_33_method_12_code 86 = .ok (.bipush (-9), 2) := by decide +kernel
theorem o312_88 : decode jdk_33_method_12_code 88 = .ok (.if_icmp .ge 16, 3) := by decide +kernel
theorem o312_104 : decode jdk_33_method_12_code 104 = .ok (.iload 6, 2) := by decide +kernel
theorem o312_106 : decode jdk_33_method_12_code 106 = .ok (.ifCond .eq 12, 3) := by decide +kernel
theorem o312_118 : decode jdk_33_method_12_code 118 = .ok (.iload 5, 2) := by decide +kernel
theorem o312_120 : decode jdk_33_method_12_code 120 = .ok (.ireturn, 1) := by decide +kernel
theorem own_ef_getC6 (m : MethodId) (x0 : Int32) (x1 : Int32) (x2 : Addr) : entryFrame m #[(.int x0), (.int x1), (.ref x2)] 7 = mkF m 0 #[(oi x0), (oi x1), (oR x2), .unset, .unset, .unset, .unset] [] := by first | (simp [entryFrame, mkF, argsToLocals, Value.category]; done) | rfl
def own_Q_getC6 (Z : State) (bv : Addr) (cz : Int32) (dg : Addr) (cld : Cell) (kb : ClassId) (w0 w1 w2 w3 w4 : Int32) (h0 : Heap) (n0 : Nat) (v : Option Value) (h : Heap) (L : List Loc) : Prop := v = some (.int 5) ∧ Fr n0 L ∧ Keep h0 h [bv] ∧ Arv Z h bv kb .byte (16 : Int32) [(.int w0), (.int w1), (.int w2), (.int w3), (.int w4), (.int (nar .byte (atv cld (6 : Int32)))), (.int 0), (.int 0), (.int 0), (.int 0), (.int 0), (.int 0), (.int 0), (.int 0), (.int 0), (.int 0)] (.int 0) ∧ Sta Z h "java/lang/String" "COMPACT_STRINGS" "Z" (.int cz)
set_option maxRecDepth 65536 in
set_option maxHeartbeats 40000000 in
theorem own_rm_getC6 (l : Launch) (Z : State) (a0 : Array Value) (hw : ∀ d ∈ tables_1, d.before a0 Z = true) (ws : List Jvm.Cond) (bv : Addr) (cz : Int32) (dg : Addr) (cld : Cell) (kb : ClassId) (w0 w1 w2 w3 w4 : Int32) (h0 : Heap) (n0 : Nat) (Z0 : n0 ≤ h0.size) (hnd : ([dg, bv] : List Addr).Nodup) (g_bv : n0 ≤ bv) (Sc0 : Sta Z h0 "java/lang/String" "COMPACT_STRINGS" "Z" (.int cz)) (hcz : ¬ cz = (0 : Int32)) (Sd0 : Sta Z h0 "java/lang/Integer" "DigitOnes" "[B" (.ref dg)) (Td0 : Tab Z h0 dg cld .byte (100 : Int32)) (Vv0 : Arv Z h0 bv kb .byte (16 : Int32) [(.int w0), (.int w1), (.int w2), (.int w3), (.int w4), (.int 0), (.int 0), (.int 0), (.int 0), (.int 0), (.int 0), (.int 0), (.int 0), (.int 0), (.int 0), (.int 0)] (.int 0)) :
    MetFree l (⟨"java/lang/Integer", "getChars", "(II[B)I"⟩ : MethodName) (head1 (Jvm.Cond.code (⟨"java/lang/Integer", "getChars", "(II[B)I"⟩ : MethodName) jdk_33_method_12_code 7 (some .int) :: ws) ({ frames := 0, cells := 0, slots := 0, locals := 0 } : Room)) (fun a U => a = #[(.int 6), (.int 6), (.ref bv)] ∧ Z.Warmed39 U.vm ∧ U.heap = h0) (fun _ _ _ _ _ => True) (fun _ U o U' => ∃ v L, o = .returned v ∧ own_Q_getC6 Z bv cz dg cld kb w0 w1 w2 w3 w4 h0 n0 v U'.heap L ∧ FrameEnd U o U' L ({ frames := 0, cells := 0, slots := 0, locals := 0 } : Room).cells ({ frames := 0, cells := 0, slots := 0, locals := 0 } : Room).slots) := by
  refine MetFree.of_bodySF (plainFor_of_name own_pn_java_lang_Integer) hisR ?_
  intro p e s m args below meth c s₁ Bd hml0 hP hKq_
  obtain ⟨rfl, hZ, hh⟩ := hP
  have hx := Bd.exec
  have hby := Bd.bytes
  have hml : c.maxLocals = 7 := hml0
  have hown : s.vm.findClass "java/lang/Integer" = some m.cls := findClass_of_methodNamed Bd.named
  have hnm := (name_of_methodNamed Bd.named Bd.method).1
  have ow131 := hw _ (List.mem_of_getElem? (i := 131) rfl)
  have X0 : Stand p l e ({ frames := 0, cells := 0, slots := 0, locals := 0 } : Room) s m #[(.int 6), (.int 6), (.ref bv)] below meth c s₁ [] 0 0 := Stand.of_body Bd
  have e0 : s₁.heap = h0 := by rw [← hh, Bd.state]; rfl
  have N0 := Fr.nil n0
  have pre0 : ∀ t, Steps p.tables e below (s₁.setTop (mkF m 0 #[(oi 6), (oi 6), (oR bv), .unset, .unset, .unset, .unset] [])) t → Steps p.tables e below (s₁.setTop (entryFrame m #[(.int 6), (.int 6), (.ref bv)] 7)) t := fun t k => castTop (own_ef_getC6 m (6 : Int32) (6 : Int32) bv) k
  refine own_go pre0 ?_
  refine own_abs ?_
  intro Pf hPf
  refine own_go (A := oW p e below s₁ (oF_getC6 m 78 (oi (-6)) (oi 6) (oR bv) .unset .unset (oi 5) (oi 0) [(.int 5), (.ref bv)])) (fun t k => by
    refine XS.iloadN X0.here hx rfl (hb hby o312_0) rfl ?_
    show oW p e below s₁ (oF_getC6 m 1 (oi 6) (oi 6) (oR bv) .unset .unset .unset .unset [(.int 6)]) _
    refine XS.istore X0.here hx rfl (hb hby o312_1) rfl (l' := #[(oi 6), (oi 6), (oR bv), .unset, .unset, (oi 6), .unset]) rfl ?_
    show oW p e below s₁ (oF_getC6 m 3 (oi 6) (oi 6) (oR bv) .unset .unset (oi 6) .unset []) _
    refine XS.iloadN X0.here hx rfl (hb hby o312_3) rfl ?_
    show oW p e below s₁ (oF_getC6 m 4 (oi 6) (oi 6) (oR bv) .unset .unset (oi 6) .unset [(.int 6)]) _
    refine XS.ifYes X0.here hx rfl (pc0 := 4) (pc' := 11) rfl (hb hby o312_4) rfl ((if0 _ _).trans (flt (by decide : ¬ ((6 : Int32) < (0 : Int32)))).2.1) (by decide) (by decide) ?_
    show oW p e below s₁ (oF_getC6 m 11 (oi 6) (oi 6) (oR bv) .unset .unset (oi 6) .unset []) _
    refine XS.iconst X0.here hx rfl (hb hby o312_11) ?_
    show oW p e below s₁ (oF_getC6 m 12 (oi 6) (oi 6) (oR bv) .unset .unset (oi 6) .unset [(.int 0)]) _
    refine XS.istore X0.here hx rfl (hb hby o312_12) rfl (l' := #[(oi 6), (oi 6), (oR bv), .unset, .unset, (oi 6), (oi 0)]) rfl ?_
    show oW p e below s₁ (oF_getC6 m 14 (oi 6) (oi 6) (oR bv) .unset .unset (oi 6) (oi 0) []) _
    refine XS.iload X0.here hx rfl (hb hby o312_14) rfl ?_
    show oW p e below s₁ (oF_getC6 m 16 (oi 6) (oi 6) (oR bv) .unset .unset (oi 6) (oi 0) [(.int 0)]) _
    refine XS.ifNo X0.here hx rfl (hb hby o312_16) rfl ((if0 _ _).trans (teq (by decide : (0 : Int32) = (0 : Int32))).2) ?_
    show oW p e below s₁ (oF_getC6 m 19 (oi 6) (oi 6) (oR bv) .unset .unset (oi 6) (oi 0) []) _
    refine XS.iloadN X0.here hx rfl (hb hby o312_19) rfl ?_
    show oW p e below s₁ (oF_getC6 m 20 (oi 6) (oi 6) (oR bv) .unset .unset (oi 6) (oi 0) [(.int 6)]) _
    refine XS.ineg X0.here hx rfl (hb hby o312_20) rfl ?_
    show oW p e below s₁ (oF_getC6 m 21 (oi 6) (oi 6) (oR bv) .unset .unset (oi 6) (oi 0) [(.int (-6))]) _
    refine XS.istoreN X0.here hx rfl (hb hby o312_21) rfl (l' := #[(oi (-6)), (oi 6), (oR bv), .unset, .unset, (oi 6), (oi 0)]) rfl ?_
    show oW p e below s₁ (oF_getC6 m 22 (oi (-6)) (oi 6) (oR bv) .unset .unset (oi 6) (oi 0) []) _
    refine XS.iloadN X0.here hx rfl (hb hby o312_22) rfl ?_
    show oW p e below s₁ (oF_getC6 m 23 (oi (-6)) (oi 6) (oR bv) .unset .unset (oi 6) (oi 0) [(.int (-6))]) _
    refine XS.bipush X0.here hx rfl (hb hby o312_23) ?_
    show oW p e below s₁ (oF_getC6 m 25 (oi (-6)) (oi 6) (oR bv) .unset .unset (oi 6) (oi 0) [(.int (-100)), (.int (-6))]) _
    refine XS.icmpYes X0.here hx rfl (pc0 := 25) (pc' := 72) rfl (hb hby o312_25) rfl (tlt (by decide : (-100 : Int32) < (-6 : Int32))).2.2.1 (by decide) (by decide) ?_
    show oW p e below s₁ (oF_getC6 m 72 (oi (-6)) (oi 6) (oR bv) .unset .unset (oi 6) (oi 0) []) _
    refine XS.aloadN X0.here hx rfl (hb hby o312_72) rfl rfl ?_
    show oW p e below s₁ (oF_getC6 m 73 (oi (-6)) (oi 6) (oR bv) .unset .unset (oi 6) (oi 0) [(.ref bv)]) _
    refine XS.iinc X0.here hx rfl (hb hby o312_73) rfl (l' := #[(oi (-6)), (oi 6), (oR bv), .unset, .unset, (oi 5), (oi 0)]) rfl ?_
    show oW p e below s₁ (oF_getC6 m 76 (oi (-6)) (oi 6) (oR bv) .unset .unset (oi 5) (oi 0) [(.ref bv)]) _
    refine XS.iload X0.here hx rfl (hb hby o312_76) rfl ?_
    exact k) ?_
  obtain ⟨T1, X1, e1, st1⟩ := getS2 X0 hx hZ hown (host := "") (Or.inl ow131) Via.refl e0 Sd0 (g := (oF_getC6 m 78 (oi (-6)) (oi 6) (oR bv) .unset .unset (oi 5) (oi 0) [(.int 5), (.ref bv)])) rfl (hb hby o312_78)
  refine own_go st1 ?_
  refine own_go (A := oW p e below T1 (oF_getC6 m 83 (oi (-6)) (oi 6) (oR bv) .unset .unset (oi 5) (oi 0) [(.int 6), (.ref dg), (.int 5), (.ref bv)])) (fun t k => by
    refine XS.iloadN X1.here hx rfl (hb hby o312_81) rfl ?_
    show oW p e below T1 (oF_getC6 m 82 (oi (-6)) (oi 6) (oR bv) .unset .unset (oi 5) (oi 0) [(.int (-6)), (.ref dg), (.int 5), (.ref bv)]) _
    refine XS.ineg X1.here hx rfl (hb hby o312_82) rfl ?_
    exact k) ?_
  obtain ⟨Ar2, S2, -, H2⟩ := id (Td0)
  have hi2 : ¬ ((6 : Int32) < 0 ∨ cld.slots.size ≤ ((6 : Int32)).toNatClampNeg) := inb_of S2 ⟨by decide, by decide⟩
  have hv2 : cld.slots[((6 : Int32)).toNatClampNeg]? = some (.int (atv cld (6 : Int32))) := H2 _ hi2
  refine own_go (A := oW p e below T1 (oF_getC6 m 84 (oi (-6)) (oi 6) (oR bv) .unset .unset (oi 5) (oi 0) [(.int (atv cld (6 : Int32))), (.int 5), (.ref bv)])) (fun t k => by
    refine X1.baloadBytes hx (j := (6 : Int32)) (v := (.int (atv cld (6 : Int32)))) (by rw [e1]; exact Ar2.1) (State.isArrayOf_alike hZ.alike Ar2.2.1) Ar2.2.2 hi2 hv2 (g := (oF_getC6 m 83 (oi (-6)) (oi 6) (oR bv) .unset .unset (oi 5) (oi 0) [(.int 6), (.ref dg), (.int 5), (.ref bv)])) rfl rfl (hb hby o312_83) _ ?_
    exact k) ?_
  obtain ⟨cl3, Ar3, q3, S3, N3, H3, G3⟩ := id (Vv0)
  have hi3 : ¬ ((5 : Int32) < 0 ∨ cl3.slots.size ≤ ((5 : Int32)).toNatClampNeg) := inb_of S3 ⟨by decide, by decide⟩
  obtain ⟨T4, h4, X4, e4, W4, st4⟩ := stB X1 hx hZ e1 Ar3 (j := (5 : Int32)) hi3 (g := (oF_getC6 m 84 (oi (-6)) (oi 6) (oR bv) .unset .unset (oi 5) (oi 0) [(.int (atv cld (6 : Int32))), (.int 5), (.ref bv)])) rfl rfl (hb hby o312_84)
  refine own_go st4 ?_
  have V4 : Arv Z h4 bv kb .byte (16 : Int32) [(.int w0), (.int w1), (.int w2), (.int w3), (.int w4), (.int (nar .byte (atv cld (6 : Int32)))), (.int 0), (.int 0), (.int 0), (.int 0), (.int 0), (.int 0), (.int 0), (.int 0), (.int 0), (.int 0)] (.int 0) := Arv.set Ar3 q3 S3 N3 H3 G3 (fits_nar_byte _) W4 5 rfl (Nat.le_of_ble_eq_true rfl)
  have f4_0 : Sta Z h4 "java/lang/String" "COMPACT_STRINGS" "Z" (.int cz) := Sc0.wr W4
  have f4_1 : Sta Z h4 "java/lang/Integer" "DigitOnes" "[B" (.ref dg) := Sd0.wr W4
  have f4_2 : Tab Z h4 dg cld .byte (100 : Int32) := own_tabw Td0 W4 (own_nd hnd (i := 0) (j := 1) rfl rfl (by decide))
  have f4_3 : Arv Z h4 bv kb .byte (16 : Int32) [(.int w0), (.int w1), (.int w2), (.int w3), (.int w4), (.int (nar .byte (atv cld (6 : Int32)))), (.int 0), (.int 0), (.int 0), (.int 0), (.int 0), (.int 0), (.int 0), (.int 0), (.int 0), (.int 0)] (.int 0) := V4
  have N4 := Fr.snoc X4 N0 g_bv
  have Z4 : n0 ≤ h4.size := Nat.le_trans Z0 (Keep.of_wr W4).1
  have K4 : Keep h0 h4 [bv] := (Keep.refl h0 [bv]).wr W4 (Or.inl (List.mem_of_getElem? (i := 0) rfl))
  refine own_go (A := oW p e below T4 (oF_getC6 m 120 (oi (-6)) (oi 6) (oR bv) .unset .unset (oi 5) (oi 0) [(.int 5)])) (fun t k => by
    refine XS.iloadN X4.here hx rfl (hb hby o312_85) rfl ?_
    show oW p e below T4 (oF_getC6 m 86 (oi (-6)) (oi 6) (oR bv) .unset .unset (oi 5) (oi 0) [(.int (-6))]) _
    refine XS.bipush X4.here hx rfl (hb hby o312_86) ?_
    show oW p e below T4 (oF_getC6 m 88 (oi (-6)) (oi 6) (oR bv) .unset .unset (oi 5) (oi 0) [(.int (-9)), (.int (-6))]) _
    refine XS.icmpYes X4.here hx rfl (pc0 := 88) (pc' := 104) rfl (hb hby o312_88) rfl (flt (by decide : ¬ ((-6 : Int32) < (-9 : Int32)))).2.1 (by decide) (by decide) ?_
    show oW p e below T4 (oF_getC6 m 104 (oi (-6)) (oi 6) (oR bv) .unset .unset (oi 5) (oi 0) []) _
    refine XS.iload X4.here hx rfl (hb hby o312_104) rfl ?_
    show oW p e below T4 (oF_getC6 m 106 (oi (-6)) (oi 6) (oR bv) .unset .unset (oi 5) (oi 0) [(.int 0)]) _
    refine XS.ifYes X4.here hx rfl (pc0 := 106) (pc' := 118) rfl (hb hby o312_106) rfl ((if0 _ _).trans (teq (by decide : (0 : Int32) = (0 : Int32))).1) (by decide) (by decide) ?_
    show oW p e below T4 (oF_getC6 m 118 (oi (-6)) (oi 6) (oR bv) .unset .unset (oi 5) (oi 0) []) _
    refine XS.iload X4.here hx rfl (hb hby o312_118) rfl ?_
    exact k) ?_
  obtain ⟨fs, hr, hrun, hended, hW, hsame⟩ := X4.leave (v := some (.int 5)) (fun h => by rw [Bd.returns] at h; cases h)
  refine ⟨_, _, retOut X4 hx Bd.returns rfl (Or.inl ⟨rfl, Or.inl rfl, _, rfl⟩) (hb hby o312_120) hr, hPf _ _ ⟨hrun, hended, _, _, rfl, ?_, ⟨_, rfl⟩, hW, hsame.mono (by decide) (by decide)⟩⟩
  show own_Q_getC6 Z bv cz dg cld kb w0 w1 w2 w3 w4 h0 n0 _ T4.heap _
  rw [e4]
  exact ⟨rfl, N4, K4, f4_3, f4_0⟩
abbrev oF_getC7 (m : MethodId) (pc : Nat) (a0 a1 a2 a3 a4 a5 a6 : Slot) (S : List Value) : JFrame := mkF m pc #[a0, a1, a2, a3, a4, a5, a6] S
theorem own_ef_getC7 (m : MethodId) (x0 : Int32) (x1 : Int32) (x2 : Addr) : entryFrame m #[(.int x0), (.int x1), (.ref x2)] 7 = mkF m 0 #[(oi x0), (oi x1), (oR x2), .unset, .unset, .unset, .unset] [] := by first | (simp [entryFrame, mkF, argsToLocals, Value.category]; done) | rfl
def own_Q_getC7 (Z : State) (bv : Addr) (cz : Int32) (dg : Addr) (cld : Cell) (kb : ClassId) (w0 w1 w2 w3 w4 : Int32) (h0 : Heap) (n0 : Nat) (v : Option Value) (h : Heap) (L : List Loc) : Prop := v = some (.int 5) ∧ Fr n0 L ∧ Keep h0 h [bv] ∧ Arv Z h bv kb .byte (16 : Int32) [(.int w0), (.int w1), (.int w2), (.int w3), (.int w4), (.int (nar .byte (atv cld (7 : Int32)))), (.int 0), (.int 0), (.int 0), (.int 0), (.int 0), (.int 0), (.int 0), (.int 0), (.int 0), (.int 0)] (.int 0) ∧ Sta Z h "java/lang/String" "COMPACT_STRINGS" "Z" (.int cz)
set_option maxRecDepth 65536 in
set_option maxHeartbeats 40000000 in
theorem own_rm_getC7 (l : Launch) (Z : State) (a0 : Array Value) (hw : ∀ d ∈ tables_1, d.before a0 Z = true) (ws : List Jvm.Cond) (bv : Addr) (cz : Int32) (dg : Addr) (cld : Cell) (kb : ClassId) (w0 w1 w2 w3 w4 : Int32) (h0 : Heap) (n0 : Nat) (Z0 : n0 ≤ h0.size) (hnd : ([dg, bv] : List Addr).Nodup) (g_bv : n0 ≤ bv) (Sc0 : Sta Z h0 "java/lang/String" "COMPACT_STRINGS" "Z" (.int cz)) (hcz : ¬ cz = (0 : Int32)) (Sd0 : Sta Z h0 "java/lang/Integer" "DigitOnes" "[B" (.ref dg)) (Td0 : Tab Z h0 dg cld .byte (100 : Int32)) (Vv0 : Arv Z h0 bv kb .byte (16 : Int32) [(.int w0), (.int w1), (.int w2), (.int w3), (.int w4), (.int 0), (.int 0), (.int 0), (.int 0), (.int 0), (.int 0), (.int 0), (.int 0), (.int 0), (.int 0), (.int 0)] (.int 0)) :
    MetFree l (⟨"java/lang/Integer", "getChars", "(II[B)I"⟩ : MethodName) (head1 (Jvm.Cond.code (⟨"java/lang/Integer", "getChars", "(II[B)I"⟩ : MethodName) jdk_33_method_12_code 7 (some .int) :: ws) ({ frames := 0, cells := 0, slots := 0, locals := 0 } : Room)) (fun a U => a = #[(.int 7), (.int 6), (.ref bv)] ∧ Z.Warmed39 U.vm ∧ U.heap = h0) (fun _ _ _ _ _ => True) (fun _ U o U' => ∃ v L, o = .returned v ∧ own_Q_getC7 Z bv cz dg cld kb w0 w1 w2 w3 w4 h0 n0 v U'.heap L ∧ FrameEnd U o U' L ({ frames := 0, cells := 0, slots := 0, locals := 0 } : Room).cells ({ frames := 0, cells := 0, slots := 0, locals := 0 } : Room).slots) := by
  refine MetFree.of_bodySF (plainFor_of_name own_pn_java_lang_Integer) hisR ?_
  intro p e s m args below meth c s₁ Bd hml0 hP hKq_
  obtain ⟨rfl, hZ, hh⟩ := hP
  have hx := Bd.exec
  have hby := Bd.bytes
  have hml : c.maxLocals = 7 := hml0
  have hown : s.vm.findClass "java/lang/Integer" = some m.cls := findClass_of_methodNamed Bd.named
  have hnm := (name_of_methodNamed Bd.named Bd.method).1
  have ow131 := hw _ (List.mem_of_getElem? (i := 131) rfl)
  have X0 : Stand p l e ({ frames := 0, cells := 0, slots := 0, locals := 0 } : Room) s m #[(.int 7), (.int 6), (.ref bv)] below meth c s₁ [] 0 0 := Stand.of_body Bd
  have e0 : s₁.heap = h0 := by rw [← hh, Bd.state]; rfl
  have N0 := Fr.nil n0
  have pre0 : ∀ t, Steps p.tables e below (s₁.setTop (mkF m 0 #[(oi 7), (oi 6), (oR bv), .unset, .unset, .unset, .unset] [])) t → Steps p.tables e below (s₁.setTop (entryFrame m #[(.int 7), (.int 6), (.ref bv)] 7)) t := fun t k => castTop (own_ef_getC7 m (7 : Int32) (6 : Int32) bv) k
  refine own_go pre0 ?_
  refine own_abs ?_
  intro Pf hPf
  refine own_go (A := oW p e below s₁ (oF_getC7 m 78 (oi (-7)) (oi 6) (oR bv) .unset .unset (oi 5) (oi 0) [(.int 5), (.ref bv)])) (fun t k => by
    refine XS.iloadN X0.here hx rfl (hb hby o312_0) rfl ?_
    show oW p e below s₁ (oF_getC7 m 1 (oi 7) (oi 6) (oR bv) .unset .unset .unset .unset [(.int 6)]) _
    refine XS.istore X0.here hx rfl (hb hby o312_1) rfl (l' := #[(oi 7), (oi 6), (oR bv), .unset, .unset, (oi 6), .unset]) rfl ?_
    show oW p e below s₁ (oF_getC7 m 3 (oi 7) (oi 6) (oR bv) .unset .unset (oi 6) .unset []) _
    refine XS.iloadN X0.here hx rfl (hb hby o312_3) rfl ?_
    show oW p e below s₁ (oF_getC7 m 4 (oi 7) (oi 6) (oR bv) .unset .unset (oi 6) .unset [(.int 7)]) _
    refine XS.ifYes X0.here hx rfl (pc0 := 4) (pc' := 11) rfl (hb hby o312_4) rfl ((if0 _ _).trans (flt (by decide : ¬ ((7 : Int32) < (0 : Int32)))).2.1) (by decide) (by decide) ?_
    show oW p e below s₁ (oF_getC7 m 11 (oi 7) (oi 6) (oR bv) .unset .unset (oi 6) .unset []) _
    refine XS.iconst X0.here hx rfl (hb hby o312_11) ?_
    show oW p e below s₁ (oF_getC7 m 12 (oi 7) (oi 6) (oR bv) .unset .unset (oi 6) .unset [(.int 0)]) _
    refine XS.istore X0.here hx rfl (hb hby o312_12) rfl (l' := #[(oi 7), (oi 6), (oR bv), .unset, .unset, (oi 6), (oi 0)]) rfl ?_
    show oW p e below s₁ (oF_getC7 m 14 (oi 7) (oi 6) (oR bv) .unset .unset (oi 6) (oi 0) []) _
    refine XS.iload X0.here hx rfl (hb hby o312_14) rfl ?_
    show oW p e below s₁ (oF_getC7 m 16 (oi 7) (oi 6) (oR bv) .unset .unset (oi 6) (oi 0) [(.int 0)]) _
    refine XS.ifNo X0.here hx rfl (hb hby o312_16) rfl ((if0 _ _).trans (teq (by decide : (0 : Int32) = (0 : Int32))).2) ?_
    show oW p e below s₁ (oF_getC7 m 19 (oi 7) (oi 6) (oR bv) .unset .unset (oi 6) (oi 0) []) _
    refine XS.iloadN X0.here hx rfl (hb hby o312_19) rfl ?_
    show oW p e below s₁ (oF_getC7 m 20 (oi 7) (oi 6) (oR bv) .unset .unset (oi 6) (oi 0) [(.int 7)]) _
    refine XS.ineg X0.here hx rfl (hb hby o312_20) rfl ?_
    show oW p e below s₁ (oF_getC7 m 21 (oi 7) (oi 6) (oR bv) .unset .unset (oi 6) (oi 0) [(.int (-7))]) _
    refine XS.istoreN X0.here hx rfl (hb hby o312_21) rfl (l' := #[(oi (-7)), (oi 6), (oR bv), .unset, .unset, (oi 6), (oi 0)]) rfl ?_
    show oW p e below s₁ (oF_getC7 m 22 (oi (-7)) (oi 6) (oR bv) .unset .unset (oi 6) (oi 0) []) _
    refine XS.iloadN X0.here hx rfl (hb hby o312_22) rfl ?_
    show oW p e below s₁ (oF_getC7 m 23 (oi (-7)) (oi 6) (oR bv) .unset .unset (oi 6) (oi 0) [(.int (-7))]) _
    refine XS.bipush X0.here hx rfl (hb hby o312_23) ?_
    show oW p e below s₁ (oF_getC7 m 25 (oi (-7)) (oi 6) (oR bv) .unset .unset (oi 6) (oi 0) [(.int (-100)), (.int (-7))]) _
    refine XS.icmpYes X0.here hx rfl (pc0 := 25) (pc' := 72) rfl (hb hby o312_25) rfl (tlt (by decide : (-100 : Int32) < (-7 : Int32))).2.2.1 (by decide) (by decide) ?_
    show oW p e below s₁ (oF_getC7 m 72 (oi (-7)) (oi 6) (oR bv) .unset .unset (oi 6) (oi 0) []) _
    refine XS.aloadN X0.here hx rfl (hb hby o312_72) rfl rfl ?_
    show oW p e below s₁ (oF_getC7 m 73 (oi (-7)) (oi 6) (oR bv) .unset .unset (oi 6) (oi 0) [(.ref bv)]) _
    refine XS.iinc X0.here hx rfl (hb hby o312_73) rfl (l' := #[(oi (-7)), (oi 6), (oR bv), .unset, .unset, (oi 5), (oi 0)]) rfl ?_
    show oW p e below s₁ (oF_getC7 m 76 (oi (-7)) (oi 6) (oR bv) .unset .unset (oi 5) (oi 0) [(.ref bv)]) _
    refine XS.iload X0.here hx rfl (hb hby o312_76) rfl ?_
    exact k) ?_
  obtain ⟨T1, X1, e1, st1⟩ := getS2 X0 hx hZ hown (host := "") (Or.inl ow131) Via.refl e0 Sd0 (g := (oF_getC7 m 78 (oi (-7)) (oi 6) (oR bv) .unset .unset (oi 5) (oi 0) [(.int 5), (.ref bv)])) rfl (hb hby o312_78)
  refine own_go st1 ?_
  refine own_go (A := oW p e below T1 (oF_getC7 m 83 (oi (-7)) (oi 6) (oR bv) .unset .unset (oi 5) (oi 0) [(.int 7), (.ref dg), (.int 5), (.ref bv)])) (fun t k => by
    refine XS.iloadN X1.here hx rfl (hb hby o312_81) rfl ?_
    show oW p e below T1 (oF_getC7 m 82 (oi (-7)) (oi 6) (oR bv) .unset .unset (oi 5) (oi 0) [(.int (-7)), (.ref dg), (.int 5), (.ref bv)]) _
    refine XS.ineg X1.here hx rfl (hb hby o312_82) rfl ?_
    exact k) ?_
  obtain ⟨Ar2, S2, -, H2⟩ := id (Td0)
  have hi2 : ¬ ((7 : Int32) < 0 ∨ cld.slots.size ≤ ((7 : Int32)).toNatClampNeg) := inb_of S2 ⟨by decide, by decide⟩
  have hv2 : cld.slots[((7 : Int32)).toNatClampNeg]? = some (.int (atv cld (7 : Int32))) := H2 _ hi2
  refine own_go (A := oW p e below T1 (oF_getC7 m 84 (oi (-7)) (oi 6) (oR bv) .unset .unset (oi 5) (oi 0) [(.int (atv cld (7 : Int32))), (.int 5), (.ref bv)])) (fun t k => by
    refine X1.baloadBytes hx (j := (7 : Int32)) (v := (.int (atv cld (7 : Int32)))) (by rw [e1]; exact Ar2.1) (State.isArrayOf_alike hZ.alike Ar2.2.1) Ar2.2.2 hi2 hv2 (g := (oF_getC7 m 83 (oi (-7)) (oi 6) (oR bv) .unset .unset (oi 5) (oi 0) [(.int 7), (.ref dg), (.int 5), (.ref bv)])) rfl rfl (hb hby o312_83) _ ?_
    exact k) ?_
  obtain ⟨cl3, Ar3, q3, S3, N3, H3, G3⟩ := id (Vv0)
  have hi3 : ¬ ((5 : Int32) < 0 ∨ cl3.slots.size ≤ ((5 : Int32)).toNatClampNeg) := inb_of S3 ⟨by decide, by decide⟩
  obtain ⟨T4, h4, X4, e4, W4, st4⟩ := stB X1 hx hZ e1 Ar3 (j := (5 : Int32)) hi3 (g := (oF_getC7 m 84 (oi (-7)) (oi 6) (oR bv) .unset .unset (oi 5) (oi 0) [(.int (atv cld (7 : Int32))), (.int 5), (.ref bv)])) rfl rfl (hb hby o312_84)
  refine own_go st4 ?_
  have V4 : Arv Z h4 bv kb .byte (16 : Int32) [(.int w0), (.int w1), (.int w2), (.int w3), (.int w4), (.int (nar .byte (atv cld (7 : Int32)))), (.int 0), (.int 0), (.int 0), (.int 0), (.int 0), (.int 0), (.int 0), (.int 0), (.int 0), (.int 0)] (.int 0) := Arv.set Ar3 q3 S3 N3 H3 G3 (fits_nar_byte _) W4 5 rfl (Nat.le_of_ble_eq_true rfl)
  have f4_0 : Sta Z h4 "java/lang/String" "COMPACT_STRINGS" "Z" (.int cz) := Sc0.wr W4
  have f4_1 : Sta Z h4 "java/lang/Integer" "DigitOnes" "[B" (.ref dg) := Sd0.wr W4
  have f4_2 : Tab Z h4 dg cld .byte (100 : Int32) := own_tabw Td0 W4 (own_nd hnd (i := 0) (j := 1) rfl rfl (by decide))
  have f4_3 : Arv Z h4 bv kb .byte (16 : Int32) [(.int w0), (.int w1), (.int w2), (.int w3), (.int w4), (.int (nar .byte (atv cld (7 : Int32)))), (.int 0), (.int 0), (.int 0), (.int 0), (.int 0), (.int 0), (.int 0), (.int 0), (.int 0), (.int 0)] (.int 0) := V4
  have N4 := Fr.snoc X4 N0 g_bv
  have Z4 : n0 ≤ h4.size := Nat.le_trans Z0 (Keep.of_wr W4).1
  have K4 : Keep h0 h4 [bv] := (Keep.refl h0 [bv]).wr W4 (Or.inl (List.mem_of_getElem? (i := 0) rfl))
  refine own_go (A := oW p e below T4 (oF_getC7 m 120 (oi (-7)) (oi 6) (oR bv) .unset .unset (oi 5) (oi 0) [(.int 5)])) (fun t k => by
    refine XS.iloadN X4.here hx rfl (hb hby o312_85) rfl ?_
    show oW p e below T4 (oF_getC7 m 86 (oi (-7)) (oi 6) (oR bv) .unset .unset (oi 5) (oi 0) [(.int (-7))]) _
    refine XS.bipush X4.here hx rfl (hb hby o312_86) ?_
    show oW p e below T4 (oF_getC7 m 88 (oi (-7)) (oi 6) (oR bv) .unset .unset (oi 5) (oi 0) [(.int (-9)), (.int (-7))]) _
    refine XS.icmpYes X4.here hx rfl (pc0 := 88) (pc' := 104) rfl (hb hby o312_88) rfl (flt (by decide : ¬ ((-7 : Int32) < (-9 : Int32)))).2.1 (by decide) (by decide) ?_
    show oW p e below T4 (oF_getC7 m 104 (oi (-7)) (oi 6) (oR bv) .unset .unset (oi 5) (oi 0) []) _
    refine XS.iload X4.here hx rfl (hb hby o312_104) rfl ?_
    show oW p e below T4 (oF_getC7 m 106 (oi (-7)) (oi 6) (oR bv) .unset .unset (oi 5) (oi 0) [(.int 0)]) _
    refine XS.ifYes X4.here hx rfl (pc0 := 106) (pc' := 118) rfl (hb hby o312_106) rfl ((if0 _ _).trans (teq (by decide : (0 : Int32) = (0 : Int32))).1) (by decide) (by decide) ?_
    show oW p e below T4 (oF_getC7 m 118 (oi (-7)) (oi 6) (oR bv) .unset .unset (oi 5) (oi 0) []) _
    refine XS.iload X4.here hx rfl (hb hby o312_118) rfl ?_
    exact k) ?_
  obtain ⟨fs, hr, hrun, hended, hW, hsame⟩ := X4.leave (v := some (.int 5)) (fun h => by rw [Bd.returns] at h; cases h)
  refine ⟨_, _, retOut X4 hx Bd.returns rfl (Or.inl ⟨rfl, Or.inl rfl, _, rfl⟩) (hb hby o312_120) hr, hPf _ _ ⟨hrun, hended, _, _, rfl, ?_, ⟨_, rfl⟩, hW, hsame.mono (by decide) (by decide)⟩⟩
  show own_Q_getC7 Z bv cz dg cld kb w0 w1 w2 w3 w4 h0 n0 _ T4.heap _
  rw [e4]
  exact ⟨rfl, N4, K4, f4_3, f4_0⟩
abbrev oF_apI6 (m : MethodId) (pc : Nat) (a0 a1 a2 a3 : Slot) (S : List Value) : JFrame := mkF m pc #[a0, a1, a2, a3] S
theorem o832_0 : decode jdk_68_method_32_code 0 = .ok (.aload_n 0, 1) := by decide +kernel
theorem o832_1 : decode jdk_68_method_32_code 1 = .ok (.getfield 79, 3) := by decide +kernel
theorem o832_4 : decode jdk_68_method_32_code 4 = .ok (.istore_n 2, 1) := by decide +kernel
theorem o832_5 : decode jdk_68_method_32_code 5 = .ok (.iload_n 2, 1) := by decide +kernel
theorem o832_6 : decode jdk_68_method_32_code 6 = .ok (.iload_n 1, 1) := by decide +kernel
theorem o832_7 : decode jdk_68_method_32_code 7 = .ok (.invokestatic 245, 3) := by decide +kernel
theorem own_pd_28I29I : parseMethodDescriptor "(I)I" = some ⟨[.int], some .int⟩ := by decide +kernel
theorem o832_10 : decode jdk_68_method_32_code 10 = .ok (.iadd, 1) := by decide +kernel
theorem o832_11 : decode jdk_68_method_32_code 11 = .ok (.istore_n 3, 1) := by decide +kernel
theorem o832_12 : decode jdk_68_method_32_code 12 = .ok (.aload_n 0, 1) := by decide +kernel
theorem o832_13 : decode jdk_68_method_32_code 13 = .ok (.iload_n 3, 1) := by decide +kernel
theorem o832_14 : decode jdk_68_method_32_code 14 = .ok (.invokevirtual 100, 3) := by decide +kernel
theorem o832_17 : decode jdk_68_method_32_code 17 = .ok (.aload_n 0, 1) := by decide +kernel
theorem o832_18 : decode jdk_68_method_32_code 18 = .ok (.invokevirtual 83, 3) := by decide +kernel
theorem o832_21 : decode jdk_68_method_32_code 21 = .ok (.ifCond .eq 16, 3) := by decide +kernel
theorem o832_24 : decode jdk_68_method_32_code 24 = .ok (.iload_n 1, 1) := by decide +kernel
theorem o832_25 : decode jdk_68_method_32_code 25 = .ok (.iload_n 3, 1) := by decide +kernel
theorem o832_26 : decode jdk_68_method_32_code 26 = .ok (.aload_n 0, 1) := by decide +kernel
theorem o832_27 : decode jdk_68_method_32_code 27 = .ok (.getfield 15, 3) := by decide +kernel
theorem o832_30 : decode jdk_68_method_32_code 30 = .ok (.invokestatic 248, 3) := by decide +kernel
theorem own_pd_28II5bB29I : parseMethodDescriptor "(II[B)I" = some ⟨[.int, .int, (.array .byte)], some .int⟩ := by decide +kernel
theorem o832_33 : decode jdk_68_method_32_code 33 = .ok (.pop, 1) := by decide +kernel
theorem o832_34 : decode jdk_68_method_32_code 34 = .ok (.goto 14, 3) := by decide +kernel
theorem o832_48 : decode jdk_68_method_32_code 48 = .ok (.aload_n 0, 1) := by decide +kernel
theorem o832_49 : decode jdk_68_method_32_code 49 = .ok (.iload_n 3, 1) := by decide +kernel
theorem o832_50 : decode jdk_68_method_32_code 50 = .ok (.putfield 79, 3) := by decide +kernel
theorem o832_53 : decode jdk_68_method_32_code 53 = .ok (.aload_n 0, 1) := by decide +kernel
theorem o832_54 : decode jdk_68_method_32_code 54 = .ok (.areturn, 1) := by decide +kernel
theorem own_ef_apI6 (m : MethodId) (x0 : Addr) (x1 : Int32) : entryFrame m #[(.ref x0), (.int x1)] 4 = mkF m 0 #[(oR x0), (oi x1), .unset, .unset] [] := by first | (simp [entryFrame, mkF, argsToLocals, Value.category]; done) | rfl
def own_Q_apI6 (Z : State) (sb : Addr) (cz : Int32) (dg bv : Addr) (cld : Cell) (kb : ClassId) (w0 w1 w2 w3 w4 : Int32) (h0 : Heap) (n0 : Nat) (v : Option Value) (h : Heap) (L : List Loc) : Prop := v = some (.ref sb) ∧ Fr n0 L ∧ Keep h0 h [sb, bv] ∧ Fld Z h sb "java/lang/AbstractStringBuilder" "value" "[B" (.ref bv) ∧ Fld Z h sb "java/lang/AbstractStringBuilder" "coder" "B" (.int 0) ∧ Fld Z h sb "java/lang/AbstractStringBuilder" "count" "I" (.int 6) ∧ Arv Z h bv kb .byte (16 : Int32) [(.int w0), (.int w1), (.int w2), (.int w3), (.int w4), (.int (nar .byte (atv cld (6 : Int32)))), (.int 0), (.int 0), (.int 0), (.int 0), (.int 0), (.int 0), (.int 0), (.int 0), (.int 0), (.int 0)] (.int 0) ∧ Sta Z h "java/lang/String" "COMPACT_STRINGS" "Z" (.int cz)
set_option maxRecDepth 65536 in
set_option maxHeartbeats 40000000 in
theorem own_rm_apI6 (l : Launch) (Z : State) (a0 : Array Value) (hw : ∀ d ∈ tables_1, d.before a0 Z = true) (ws : List Jvm.Cond) (sb : Addr) (cz : Int32) (dg bv : Addr) (cld : Cell) (kb : ClassId) (w0 w1 w2 w3 w4 : Int32) (h0 : Heap) (n0 : Nat) (Z0 : n0 ≤ h0.size) (hnd : ([sb, dg, bv] : List Addr).Nodup) (g_sb : n0 ≤ sb) (g_bv : n0 ≤ bv) (Sc0 : Sta Z h0 "java/lang/String" "COMPACT_STRINGS" "Z" (.int cz)) (hcz : ¬ cz = (0 : Int32)) (Sd0 : Sta Z h0 "java/lang/Integer" "DigitOnes" "[B" (.ref dg)) (Td0 : Tab Z h0 dg cld .byte (100 : Int32)) (Eb0 : Exa Z h0 sb "java/lang/StringBuilder") (Fbc : Fld Z h0 sb "java/lang/AbstractStringBuilder" "coder" "B" (.int 0)) (Fbv : Fld Z h0 sb "java/lang/AbstractStringBuilder" "value" "[B" (.ref bv)) (Fbn : Fld Z h0 sb "java/lang/AbstractStringBuilder" "count" "I" (.int 5)) (Vv0 : Arv Z h0 bv kb .byte (16 : Int32) [(.int w0), (.int w1), (.int w2), (.int w3), (.int w4), (.int 0), (.int 0), (.int 0), (.int 0), (.int 0), (.int 0), (.int 0), (.int 0), (.int 0), (.int 0), (.int 0)] (.int 0)) :
    MetFree l (⟨"java/lang/AbstractStringBuilder", "append", "(I)Ljava/lang/AbstractStringBuilder;"⟩ : MethodName) (head1 (Jvm.Cond.code (⟨"java/lang/AbstractStringBuilder", "append", "(I)Ljava/lang/AbstractStringBuilder;"⟩ : MethodName) jdk_68_method_32_code 4 (some (.object "java/lang/AbstractStringBuilder")) :: ws) ({ frames := 1, cells := 0, slots := 0, locals := 18 } : Room)) (fun a U => a = #[(.ref sb), (.int 6)] ∧ Z.Warmed39 U.vm ∧ U.heap = h0) (fun _ _ _ _ _ => True) (fun _ U o U' => ∃ v L, o = .returned v ∧ own_Q_apI6 Z sb cz dg bv cld kb w0 w1 w2 w3 w4 h0 n0 v U'.heap L ∧ FrameEnd U o U' L ({ frames := 1, cells := 0, slots := 0, locals := 18 } : Room).cells ({ frames := 1, cells := 0, slots := 0, locals := 18 } : Room).slots) := by
  refine MetFree.of_bodySF (plainFor_of_name own_pn_java_lang_AbstractStringBuilder) hisR ?_
  intro p e s m args below meth c s₁ Bd hml0 hP hKq_
  obtain ⟨rfl, hZ, hh⟩ := hP
  have hx := Bd.exec
  have hby := Bd.bytes
  have hml : c.maxLocals = 4 := hml0
  have hown : s.vm.findClass "java/lang/AbstractStringBuilder" = some m.cls := findClass_of_methodNamed Bd.named
  have hnm := (name_of_methodNamed Bd.named Bd.method).1
  have ow48 := hw _ (List.mem_of_getElem? (i := 48) rfl)
  have ow57 := hw _ (List.mem_of_getElem? (i := 57) rfl)
  have ow64 := hw _ (List.mem_of_getElem? (i := 64) rfl)
  have ow65 := hw _ (List.mem_of_getElem? (i := 65) rfl)
  have ow67 := hw _ (List.mem_of_getElem? (i := 67) rfl)
  have ow83 := hw _ (List.mem_of_getElem? (i := 83) rfl)
  have ow84 := hw _ (List.mem_of_getElem? (i := 84) rfl)
  have ow85 := hw _ (List.mem_of_getElem? (i := 85) rfl)
  have ow86 := hw _ (List.mem_of_getElem? (i := 86) rfl)
  have ow87 := hw _ (List.mem_of_getElem? (i := 87) rfl)
  have ow88 := hw _ (List.mem_of_getElem? (i := 88) rfl)
  have ow89 := hw _ (List.mem_of_getElem? (i := 89) rfl)
  have ow119 := hw _ (List.mem_of_getElem? (i := 119) rfl)
  have ow120 := hw _ (List.mem_of_getElem? (i := 120) rfl)
  have ow121 := hw _ (List.mem_of_getElem? (i := 121) rfl)
  have ow122 := hw _ (List.mem_of_getElem? (i := 122) rfl)
  have ow123 := hw _ (List.mem_of_getElem? (i := 123) rfl)
  have ow124 := hw _ (List.mem_of_getElem? (i := 124) rfl)
  have ow125 := hw _ (List.mem_of_getElem? (i := 125) rfl)
  have ow126 := hw _ (List.mem_of_getElem? (i := 126) rfl)
  have ow127 := hw _ (List.mem_of_getElem? (i := 127) rfl)
  have ow128 := hw _ (List.mem_of_getElem? (i := 128) rfl)
  have ow129 := hw _ (List.mem_of_getElem? (i := 129) rfl)
  have ow130 := hw _ (List.mem_of_getElem? (i := 130) rfl)
  have X0 : Stand p l e ({ frames := 1, cells := 0, slots := 0, locals := 18 } : Room) s m #[(.ref sb), (.int 6)] below meth c s₁ [] 0 0 := Stand.of_body Bd
  have e0 : s₁.heap = h0 := by rw [← hh, Bd.state]; rfl
  have N0 := Fr.nil n0
  have pre0 : ∀ t, Steps p.tables e below (s₁.setTop (mkF m 0 #[(oR sb), (oi 6), .unset, .unset] [])) t → Steps p.tables e below (s₁.setTop (entryFrame m #[(.ref sb), (.int 6)] 4)) t := fun t k => castTop (own_ef_apI6 m sb (6 : Int32)) k
  refine own_go pre0 ?_
  refine own_abs ?_
  intro Pf hPf
  have od_sb_bv : sb ≠ bv := (own_nd hnd (i := 0) (j := 2) rfl rfl (by decide))
  have nn_dg : dg ∉ ([sb, bv] : List Addr) := (ninS (own_nd hnd (i := 1) (j := 0) rfl rfl (by decide)) (ninS (own_nd hnd (i := 1) (j := 2) rfl rfl (by decide)) nin0))
  refine own_go (A := oW p e below s₁ (oF_apI6 m 1 (oR sb) (oi 6) .unset .unset [(.ref sb)])) (fun t k => by
    refine XS.aloadN X0.here hx rfl (hb hby o832_0) rfl rfl ?_
    exact k) ?_
  obtain ⟨T1, X1, e1, st1⟩ := getF X0 hx hZ hown (host := "") (Or.inl ow83) Via.refl e0 Fbn (g := (oF_apI6 m 1 (oR sb) (oi 6) .unset .unset [(.ref sb)])) rfl rfl (hb hby o832_1)
  refine own_go st1 ?_
  refine own_go (A := oW p e below T1 (oF_apI6 m 7 (oR sb) (oi 6) (oi 5) .unset [(.int 6), (.int 5)])) (fun t k => by
    refine XS.istoreN X1.here hx rfl (hb hby o832_4) rfl (l' := #[(oR sb), (oi 6), (oi 5), .unset]) rfl ?_
    show oW p e below T1 (oF_apI6 m 5 (oR sb) (oi 6) (oi 5) .unset []) _
    refine XS.iloadN X1.here hx rfl (hb hby o832_5) rfl ?_
    show oW p e below T1 (oF_apI6 m 6 (oR sb) (oi 6) (oi 5) .unset [(.int 5)]) _
    refine XS.iloadN X1.here hx rfl (hb hby o832_6) rfl ?_
    exact k) ?_
  obtain ⟨_, _, ⟨T2, L2, k2, n2⟩, -, X2, ⟨Lc2, hQ2, l2, y2, z2⟩, st2⟩ := Jvm.LawKit.callS X1 hx (y := (⟨"java/lang/Integer", "stringSize", "(I)I"⟩ : MethodName)) hown (mvT hZ ow119) (mvT hZ ow120) (mvT hZ ow121) (mvT hZ ow122) (by decide) (backOf (W := 1) (own_rm_size6 l Z a0 hw []  h0 n0 Z0 ) hZ ow122 ow121 (by decide) (by decide)) (g := (oF_apI6 m 7 (oR sb) (oi 6) (oi 5) .unset [(.int 6), (.int 5)])) rfl (by rw [hml]; rfl) (argsL := [(.int 6)]) (rest := [(.int 5)]) (lenOf own_pd_28I29I rfl) rfl (by show 2 * 0 + _ ≤ _; exact Nat.le_of_eq rfl) (hb hby o832_7) (fun _ _ => ⟨rfl, e1, (by decide : 0 + 0 ≤ _), (by decide : 0 + 0 ≤ _)⟩)
  dsimp only [Pt.U, Pt.locs, Pt.cells, Pt.slots] at X2 l2 y2 z2 st2 hQ2
  subst l2 y2 z2
  obtain ⟨rfl, N2q, eh2⟩ := hQ2
  have N2 := Fr.app N0 N2q
  refine own_go st2 ?_
  refine own_go (A := oW p e below T2 (oF_apI6 m 14 (oR sb) (oi 6) (oi 5) (oi 6) [(.int 6), (.ref sb)])) (fun t k => by
    refine XS.iadd X2.here hx rfl (hb hby o832_10) rfl ?_
    show oW p e below T2 (oF_apI6 m 11 (oR sb) (oi 6) (oi 5) .unset [(.int 6)]) _
    refine XS.istoreN X2.here hx rfl (hb hby o832_11) rfl (l' := #[(oR sb), (oi 6), (oi 5), (oi 6)]) rfl ?_
    show oW p e below T2 (oF_apI6 m 12 (oR sb) (oi 6) (oi 5) (oi 6) []) _
    refine XS.aloadN X2.here hx rfl (hb hby o832_12) rfl rfl ?_
    show oW p e below T2 (oF_apI6 m 13 (oR sb) (oi 6) (oi 5) (oi 6) [(.ref sb)]) _
    refine XS.iloadN X2.here hx rfl (hb hby o832_13) rfl ?_
    exact k) ?_
  obtain ⟨cq3, q3a, q3b⟩ := Exa.cell Eb0
  obtain ⟨_, _, ⟨T3, L3, k3, n3⟩, -, X3, ⟨Lc3, hQ3, l3, y3, z3⟩, st3⟩ := own_privBack X2 hx (y := (⟨"java/lang/AbstractStringBuilder", "ensureCapacityInternal", "(I)V"⟩ : MethodName)) (z := (⟨"java/lang/AbstractStringBuilder", "ensureCapacityInternal", "(I)V"⟩ : MethodName)) (w := (⟨"java/lang/AbstractStringBuilder", "ensureCapacityInternal", "(I)V"⟩ : MethodName)) hown (mvT hZ ow85) (mvT hZ ow86) (mvT hZ ow88) rfl (Cond.privateMethod_at (mvP hZ ow87 (args := #[]))) (mvT hZ ow89) (by decide) (backOf (W := 0) (own_rm_ens6 l Z a0 hw [] sb bv kb w0 w1 w2 w3 w4 h0 n0 Z0 Eb0 Fbc Fbv Vv0) hZ ow89 ow57 (by decide) (by decide)) (g := (oF_apI6 m 14 (oR sb) (oi 6) (oi 5) (oi 6) [(.int 6), (.ref sb)])) rfl (by rw [hml]; rfl) (Steps.refl _) (a := sb) (by rw [eh2]; exact q3a) q3b (argsL := [(.int 6)]) (rest := []) (lenOf own_pd_28I29V rfl) rfl (by show 2 * 0 + _ ≤ _; exact Nat.le_of_eq rfl) (hb hby o832_14) (fun _ _ => ⟨rfl, eh2, (by decide : 0 + 0 ≤ _), (by decide : 0 + 0 ≤ _)⟩)
  dsimp only [Pt.U, Pt.locs, Pt.cells, Pt.slots] at X3 l3 y3 z3 st3 hQ3
  subst l3 y3 z3
  obtain ⟨rfl, N3q, eh3⟩ := hQ3
  have N3 := Fr.app N2 N3q
  refine own_go (fun _ k => st3.trans k) ?_
  refine own_go (A := oW p e below T3 (oF_apI6 m 18 (oR sb) (oi 6) (oi 5) (oi 6) [(.ref sb)])) (fun t k => by
    refine XS.aloadN X3.here hx rfl (hb hby o832_17) rfl rfl ?_
    exact k) ?_
  obtain ⟨cq4, kq4, q4a, q4b, q4c⟩ := isOf hZ eh3 Eb0
  obtain ⟨_, _, ⟨T4, L4, k4, n4⟩, -, X4, ⟨Lc4, hQ4, l4, y4, z4⟩, st4⟩ := X3.virtualBack hx (y := (⟨"java/lang/AbstractStringBuilder", "isLatin1", "()Z"⟩ : MethodName)) (z := (⟨"java/lang/AbstractStringBuilder", "isLatin1", "()Z"⟩ : MethodName)) hown (mvT hZ ow123) (mvT hZ ow124) (notFace_of_selects (args := #[]) (mvT hZ ow126)) (mvT hZ ow126) (mvT hZ ow125) (by decide) (backOf (W := 0) (own_rm_isLB l Z a0 hw [] sb cz h0 n0 Z0 Sc0 hcz Eb0 Fbc) hZ ow127 ow57 (by decide) (by decide)) q4a q4c (g := (oF_apI6 m 18 (oR sb) (oi 6) (oi 5) (oi 6) [(.ref sb)])) rfl (by rw [hml]; rfl) (Steps.refl _) (argsL := []) (rest := []) (lenOf own_pd_2829Z rfl) rfl (by show 2 * 0 + _ ≤ _; exact Nat.le_of_eq rfl) (hb hby o832_18) (fun _ _ => ⟨rfl, eh3, (by decide : 0 + 0 ≤ _), (by decide : 0 + 0 ≤ _)⟩)
  dsimp only [Pt.U, Pt.locs, Pt.cells, Pt.slots] at X4 l4 y4 z4 st4 hQ4
  subst l4 y4 z4
  obtain ⟨rfl, N4q, eh4⟩ := hQ4
  have N4 := Fr.app N3 N4q
  refine own_go (fun _ k => st4.trans k) ?_
  refine own_go (A := oW p e below T4 (oF_apI6 m 27 (oR sb) (oi 6) (oi 5) (oi 6) [(.ref sb), (.int 6), (.int 6)])) (fun t k => by
    refine XS.ifNo X4.here hx rfl (hb hby o832_21) rfl ((if0 _ _).trans (feq (by decide : ¬ ((1 : Int32) = (0 : Int32)))).1) ?_
    show oW p e below T4 (oF_apI6 m 24 (oR sb) (oi 6) (oi 5) (oi 6) []) _
    refine XS.iloadN X4.here hx rfl (hb hby o832_24) rfl ?_
    show oW p e below T4 (oF_apI6 m 25 (oR sb) (oi 6) (oi 5) (oi 6) [(.int 6)]) _
    refine XS.iloadN X4.here hx rfl (hb hby o832_25) rfl ?_
    show oW p e below T4 (oF_apI6 m 26 (oR sb) (oi 6) (oi 5) (oi 6) [(.int 6), (.int 6)]) _
    refine XS.aloadN X4.here hx rfl (hb hby o832_26) rfl rfl ?_
    exact k) ?_
  obtain ⟨T5, X5, e5, st5⟩ := getF X4 hx hZ hown (host := "") (Or.inl ow64) Via.refl eh4 Fbv (g := (oF_apI6 m 27 (oR sb) (oi 6) (oi 5) (oi 6) [(.ref sb), (.int 6), (.int 6)])) rfl rfl (hb hby o832_27)
  refine own_go st5 ?_
  obtain ⟨_, _, ⟨T6, L6, k6, n6⟩, -, X6, ⟨Lc6, hQ6, l6, y6, z6⟩, st6⟩ := Jvm.LawKit.callS X5 hx (y := (⟨"java/lang/Integer", "getChars", "(II[B)I"⟩ : MethodName)) hown (mvT hZ ow128) (mvT hZ ow129) (mvT hZ ow121) (mvT hZ ow130) (by decide) (backOf (W := 0) (own_rm_getC6 l Z a0 hw [] bv cz dg cld kb w0 w1 w2 w3 w4 h0 n0 Z0 (own_ndS (ninS (own_nd hnd (i := 1) (j := 2) rfl rfl (by decide)) nin0) (own_ndS nin0 List.nodup_nil)) g_bv Sc0 hcz Sd0 Td0 Vv0) hZ ow130 ow121 (by decide) (by decide)) (g := (oF_apI6 m 30 (oR sb) (oi 6) (oi 5) (oi 6) [(.ref bv), (.int 6), (.int 6)])) rfl (by rw [hml]; rfl) (argsL := [(.int 6), (.int 6), (.ref bv)]) (rest := []) (lenOf own_pd_28II5bB29I rfl) rfl (by show 2 * 0 + _ ≤ _; exact Nat.le_of_eq rfl) (hb hby o832_30) (fun _ _ => ⟨rfl, e5, (by decide : 0 + 0 ≤ _), (by decide : 0 + 0 ≤ _)⟩)
  dsimp only [Pt.U, Pt.locs, Pt.cells, Pt.slots] at X6 l6 y6 z6 st6 hQ6
  subst l6 y6 z6
  obtain ⟨rfl, N6q, K6q, p6_0, p6_1⟩ := hQ6
  have N6 := Fr.app N4 N6q
  have f6_4 : Fld Z T6.heap sb "java/lang/AbstractStringBuilder" "coder" "B" (.int 0) := Fbc.keep K6q (ninS od_sb_bv nin0)
  have f6_5 : Fld Z T6.heap sb "java/lang/AbstractStringBuilder" "value" "[B" (.ref bv) := Fbv.keep K6q (ninS od_sb_bv nin0)
  have f6_6 : Fld Z T6.heap sb "java/lang/AbstractStringBuilder" "count" "I" (.int 5) := Fbn.keep K6q (ninS od_sb_bv nin0)
  have Z6 : n0 ≤ T6.heap.size := Nat.le_trans Z0 K6q.1
  have K6 : Keep h0 T6.heap [sb, bv] := (Keep.refl h0 [sb, bv]).trans K6q (allS (Or.inl (List.mem_of_getElem? (i := 1) rfl)) all0)
  refine own_go st6 ?_
  refine own_go (A := oW p e below T6 (oF_apI6 m 50 (oR sb) (oi 6) (oi 5) (oi 6) [(.int 6), (.ref sb)])) (fun t k => by
    refine XS.pop X6.here hx rfl (hb hby o832_33) rfl rfl ?_
    show oW p e below T6 (oF_apI6 m 34 (oR sb) (oi 6) (oi 5) (oi 6) []) _
    refine XS.goto X6.here hx rfl (pc0 := 34) (pc' := 48) rfl (hb hby o832_34) (by decide) (by decide) ?_
    show oW p e below T6 (oF_apI6 m 48 (oR sb) (oi 6) (oi 5) (oi 6) []) _
    refine XS.aloadN X6.here hx rfl (hb hby o832_48) rfl rfl ?_
    show oW p e below T6 (oF_apI6 m 49 (oR sb) (oi 6) (oi 5) (oi 6) [(.ref sb)]) _
    refine XS.iloadN X6.here hx rfl (hb hby o832_49) rfl ?_
    exact k) ?_
  obtain ⟨T7, h7, X7, e7, W7, st7⟩ := putF X6 hx hZ hown (host := "") (Or.inl ow83) Via.refl rfl f6_6 (Eb0.keep K6) (Or.inl ow84) ow48 (ty := .int) (by decide) rfl rfl (g := (oF_apI6 m 50 (oR sb) (oi 6) (oi 5) (oi 6) [(.int 6), (.ref sb)])) rfl rfl (hb hby o832_50)
  refine own_go st7 ?_
  have f7_2 : Fld Z h7 sb "java/lang/AbstractStringBuilder" "coder" "B" (.int 0) := f6_4.other W7 (Or.inr (slot_ne (Or.inl ow67) (Or.inl ow84) (by decide) (t := .byte) (t' := .int) (by decide) (by decide)))
  have f7_3 : Fld Z h7 sb "java/lang/AbstractStringBuilder" "value" "[B" (.ref bv) := f6_5.other W7 (Or.inr (slot_ne (Or.inl ow65) (Or.inl ow84) (by decide) (t := (.array .byte)) (t' := .int) (by decide) (by decide)))
  have f7_4 : Fld Z h7 sb "java/lang/AbstractStringBuilder" "count" "I" (.int 6) := f6_6.same W7
  have f7_5 : Arv Z h7 bv kb .byte (16 : Int32) [(.int w0), (.int w1), (.int w2), (.int w3), (.int w4), (.int (nar .byte (atv cld (6 : Int32)))), (.int 0), (.int 0), (.int 0), (.int 0), (.int 0), (.int 0), (.int 0), (.int 0), (.int 0), (.int 0)] (.int 0) := p6_0.other W7 (od_sb_bv.symm)
  have f7_6 : Sta Z h7 "java/lang/String" "COMPACT_STRINGS" "Z" (.int cz) := p6_1.wr W7
  have N7 := Fr.snoc X7 N6 g_sb
  have Z7 : n0 ≤ h7.size := Nat.le_trans Z6 (Keep.of_wr W7).1
  have K7 : Keep h0 h7 [sb, bv] := K6.wr W7 (Or.inl (List.mem_of_getElem? (i := 0) rfl))
  refine own_go (A := oW p e below T7 (oF_apI6 m 54 (oR sb) (oi 6) (oi 5) (oi 6) [(.ref sb)])) (fun t k => by
    refine XS.aloadN X7.here hx rfl (hb hby o832_53) rfl rfl ?_
    exact k) ?_
  obtain ⟨fs, hr, hrun, hended, hW, hsame⟩ := X7.leave (v := some (.ref sb)) (fun h => by rw [Bd.returns] at h; cases h)
  refine ⟨_, _, retOut X7 hx Bd.returns rfl (Or.inr (Or.inr (Or.inr (Or.inr ⟨rfl, rfl, rfl⟩)))) (hb hby o832_54) hr, hPf _ _ ⟨hrun, hended, _, _, rfl, ?_, ⟨_, rfl⟩, hW, hsame.mono (by decide) (by decide)⟩⟩
  show own_Q_apI6 Z sb cz dg bv cld kb w0 w1 w2 w3 w4 h0 n0 _ T7.heap _
  rw [e7]
  exact ⟨rfl, N7, K7, f7_3, f7_2, f7_4, f7_5, f7_6⟩
abbrev oF_apJ6 (m : MethodId) (pc : Nat) (a0 a1 : Slot) (S : List Value) : JFrame := mkF m pc #[a0, a1] S
theorem o715_0 : decode jdk_67_method_15_code 0 = .ok (.aload_n 0, 1) := by decide +kernel
theorem o715_1 : decode jdk_67_method_15_code 1 = .ok (.iload_n 1, 1) := by decide +kernel
theorem o715_2 : decode jdk_67_method_15_code 2 = .ok (.invokespecial 53, 3) := by decide +kernel
theorem own_pd_28I29Ljava2flang2fAbstractStringBuilder3b : parseMethodDescriptor "(I)Ljava/lang/AbstractStringBuilder;" = some ⟨[.int], some (.object "java/lang/AbstractStringBuilder")⟩ := by decide +kernel
theorem o715_5 : decode jdk_67_method_15_code 5 = .ok (.pop, 1) := by decide +kernel
theorem o715_6 : decode jdk_67_method_15_code 6 = .ok (.aload_n 0, 1) := by decide +kernel
theorem o715_7 : decode jdk_67_method_15_code 7 = .ok (.areturn, 1) := by decide +kernel
theorem own_ef_apJ6 (m : MethodId) (x0 : Addr) (x1 : Int32) : entryFrame m #[(.ref x0), (.int x1)] 2 = mkF m 0 #[(oR x0), (oi x1)] [] := by first | (simp [entryFrame, mkF, argsToLocals, Value.category]; done) | rfl
def own_Q_apJ6 (Z : State) (sb : Addr) (cz : Int32) (dg bv : Addr) (cld : Cell) (kb : ClassId) (w0 w1 w2 w3 w4 : Int32) (h0 : Heap) (n0 : Nat) (v : Option Value) (h : Heap) (L : List Loc) : Prop := v = some (.ref sb) ∧ Fr n0 L ∧ Keep h0 h [sb, bv] ∧ Fld Z h sb "java/lang/AbstractStringBuilder" "value" "[B" (.ref bv) ∧ Fld Z h sb "java/lang/AbstractStringBuilder" "coder" "B" (.int 0) ∧ Fld Z h sb "java/lang/AbstractStringBuilder" "count" "I" (.int 6) ∧ Arv Z h bv kb .byte (16 : Int32) [(.int w0), (.int w1), (.int w2), (.int w3), (.int w4), (.int (nar .byte (atv cld (6 : Int32)))), (.int 0), (.int 0), (.int 0), (.int 0), (.int 0), (.int 0), (.int 0), (.int 0), (.int 0), (.int 0)] (.int 0) ∧ Sta Z h "java/lang/String" "COMPACT_STRINGS" "Z" (.int cz)
set_option maxRecDepth 65536 in
set_option maxHeartbeats 40000000 in
theorem own_rm_apJ6 (l : Launch) (Z : State) (a0 : Array Value) (hw : ∀ d ∈ tables_1, d.before a0 Z = true) (ws : List Jvm.Cond) (sb : Addr) (cz : Int32) (dg bv : Addr) (cld : Cell) (kb : ClassId) (w0 w1 w2 w3 w4 : Int32) (h0 : Heap) (n0 : Nat) (Z0 : n0 ≤ h0.size) (hnd : ([sb, dg, bv] : List Addr).Nodup) (g_sb : n0 ≤ sb) (g_bv : n0 ≤ bv) (Sc0 : Sta Z h0 "java/lang/String" "COMPACT_STRINGS" "Z" (.int cz)) (hcz : ¬ cz = (0 : Int32)) (Sd0 : Sta Z h0 "java/lang/Integer" "DigitOnes" "[B" (.ref dg)) (Td0 : Tab Z h0 dg cld .byte (100 : Int32)) (Eb0 : Exa Z h0 sb "java/lang/StringBuilder") (Fbc : Fld Z h0 sb "java/lang/AbstractStringBuilder" "coder" "B" (.int 0)) (Fbv : Fld Z h0 sb "java/lang/AbstractStringBuilder" "value" "[B" (.ref bv)) (Fbn : Fld Z h0 sb "java/lang/AbstractStringBuilder" "count" "I" (.int 5)) (Vv0 : Arv Z h0 bv kb .byte (16 : Int32) [(.int w0), (.int w1), (.int w2), (.int w3), (.int w4), (.int 0), (.int 0), (.int 0), (.int 0), (.int 0), (.int 0), (.int 0), (.int 0), (.int 0), (.int 0), (.int 0)] (.int 0)) :
    MetFree l (⟨"java/lang/StringBuilder", "append", "(I)Ljava/lang/StringBuilder;"⟩ : MethodName) (head1 (Jvm.Cond.code (⟨"java/lang/StringBuilder", "append", "(I)Ljava/lang/StringBuilder;"⟩ : MethodName) jdk_67_method_15_code 2 (some (.object "java/lang/StringBuilder")) :: ws) ({ frames := 2, cells := 0, slots := 0, locals := 33 } : Room)) (fun a U => a = #[(.ref sb), (.int 6)] ∧ Z.Warmed39 U.vm ∧ U.heap = h0) (fun _ _ _ _ _ => True) (fun _ U o U' => ∃ v L, o = .returned v ∧ own_Q_apJ6 Z sb cz dg bv cld kb w0 w1 w2 w3 w4 h0 n0 v U'.heap L ∧ FrameEnd U o U' L ({ frames := 2, cells := 0, slots := 0, locals := 33 } : Room).cells ({ frames := 2, cells := 0, slots := 0, locals := 33 } : Room).slots) := by
  refine MetFree.of_bodySF (plainFor_of_name own_pn_java_lang_StringBuilder) hisR ?_
  intro p e s m args below meth c s₁ Bd hml0 hP hKq_
  obtain ⟨rfl, hZ, hh⟩ := hP
  have hx := Bd.exec
  have hby := Bd.bytes
  have hml : c.maxLocals = 2 := hml0
  have hown : s.vm.findClass "java/lang/StringBuilder" = some m.cls := findClass_of_methodNamed Bd.named
  have hnm := (name_of_methodNamed Bd.named Bd.method).1
  have ow57 := hw _ (List.mem_of_getElem? (i := 57) rfl)
  have ow79 := hw _ (List.mem_of_getElem? (i := 79) rfl)
  have ow88 := hw _ (List.mem_of_getElem? (i := 88) rfl)
  have ow115 := hw _ (List.mem_of_getElem? (i := 115) rfl)
  have ow116 := hw _ (List.mem_of_getElem? (i := 116) rfl)
  have ow118 := hw _ (List.mem_of_getElem? (i := 118) rfl)
  have X0 : Stand p l e ({ frames := 2, cells := 0, slots := 0, locals := 33 } : Room) s m #[(.ref sb), (.int 6)] below meth c s₁ [] 0 0 := Stand.of_body Bd
  have e0 : s₁.heap = h0 := by rw [← hh, Bd.state]; rfl
  have N0 := Fr.nil n0
  have pre0 : ∀ t, Steps p.tables e below (s₁.setTop (mkF m 0 #[(oR sb), (oi 6)] [])) t → Steps p.tables e below (s₁.setTop (entryFrame m #[(.ref sb), (.int 6)] 2)) t := fun t k => castTop (own_ef_apJ6 m sb (6 : Int32)) k
  refine own_go pre0 ?_
  refine own_abs ?_
  intro Pf hPf
  have od_sb_bv : sb ≠ bv := (own_nd hnd (i := 0) (j := 2) rfl rfl (by decide))
  have nn_dg : dg ∉ ([sb, bv] : List Addr) := (ninS (own_nd hnd (i := 1) (j := 0) rfl rfl (by decide)) (ninS (own_nd hnd (i := 1) (j := 2) rfl rfl (by decide)) nin0))
  refine own_go (A := oW p e below s₁ (oF_apJ6 m 2 (oR sb) (oi 6) [(.int 6), (.ref sb)])) (fun t k => by
    refine XS.aloadN X0.here hx rfl (hb hby o715_0) rfl rfl ?_
    show oW p e below s₁ (oF_apJ6 m 1 (oR sb) (oi 6) [(.ref sb)]) _
    refine XS.iloadN X0.here hx rfl (hb hby o715_1) rfl ?_
    exact k) ?_
  obtain ⟨_, _, ⟨T1, L1, k1, n1⟩, -, X1, ⟨Lc1, hQ1, l1, y1, z1⟩, st1⟩ := superBack X0 hx hZ (y := (⟨"java/lang/AbstractStringBuilder", "append", "(I)Ljava/lang/AbstractStringBuilder;"⟩ : MethodName)) hown ow115 (own_same (y := (⟨"java/lang/AbstractStringBuilder", "append", "(I)Ljava/lang/AbstractStringBuilder;"⟩ : MethodName)) (w := (⟨"java/lang/AbstractStringBuilder", "ensureCapacityInternal", "(I)V"⟩ : MethodName)) ow116 ow88 rfl (by decide)) ow116 ow79 (by decide) (backOf (W := 0) (own_rm_apI6 l Z a0 hw [] sb cz dg bv cld kb w0 w1 w2 w3 w4 h0 n0 Z0 (own_ndS (ninS (own_nd hnd (i := 0) (j := 1) rfl rfl (by decide)) (ninS od_sb_bv nin0)) (own_ndS (ninS (own_nd hnd (i := 1) (j := 2) rfl rfl (by decide)) nin0) (own_ndS nin0 List.nodup_nil))) g_sb g_bv Sc0 hcz Sd0 Td0 Eb0 Fbc Fbv Fbn Vv0) hZ ow118 ow57 (by decide) (by decide)) e0 (Ins.self Eb0) (g := (oF_apJ6 m 2 (oR sb) (oi 6) [(.int 6), (.ref sb)])) rfl (by rw [hml]; rfl) ow118 (argsL := [(.int 6)]) (rest := []) (lenOf own_pd_28I29Ljava2flang2fAbstractStringBuilder3b rfl) rfl (by show 2 * 0 + _ ≤ _; exact Nat.le_of_eq rfl) (hb hby o715_2) (fun _ _ => ⟨rfl, e0, (by decide : 0 + 0 ≤ _), (by decide : 0 + 0 ≤ _)⟩)
  dsimp only [Pt.U, Pt.locs, Pt.cells, Pt.slots] at X1 l1 y1 z1 st1 hQ1
  subst l1 y1 z1
  obtain ⟨rfl, N1q, K1q, p1_0, p1_1, p1_2, p1_3, p1_4⟩ := hQ1
  have N1 := Fr.app N0 N1q
  have Z1 : n0 ≤ T1.heap.size := Nat.le_trans Z0 K1q.1
  have K1 : Keep h0 T1.heap [sb, bv] := (Keep.refl h0 [sb, bv]).trans K1q (allS (Or.inl (List.mem_of_getElem? (i := 0) rfl)) (allS (Or.inl (List.mem_of_getElem? (i := 1) rfl)) all0))
  refine own_go (fun _ k => st1.trans k) ?_
  refine own_go (A := oW p e below T1 (oF_apJ6 m 7 (oR sb) (oi 6) [(.ref sb)])) (fun t k => by
    refine XS.pop X1.here hx rfl (hb hby o715_5) rfl rfl ?_
    show oW p e below T1 (oF_apJ6 m 6 (oR sb) (oi 6) []) _
    refine XS.aloadN X1.here hx rfl (hb hby o715_6) rfl rfl ?_
    exact k) ?_
  obtain ⟨fs, hr, hrun, hended, hW, hsame⟩ := X1.leave (v := some (.ref sb)) (fun h => by rw [Bd.returns] at h; cases h)
  refine ⟨_, _, retOut X1 hx Bd.returns rfl (Or.inr (Or.inr (Or.inr (Or.inr ⟨rfl, rfl, rfl⟩)))) (hb hby o715_7) hr, hPf _ _ ⟨hrun, hended, _, _, rfl, ?_, ⟨_, rfl⟩, hW, hsame.mono (by decide) (by decide)⟩⟩
  show own_Q_apJ6 Z sb cz dg bv cld kb w0 w1 w2 w3 w4 h0 n0 _ T1.heap _
  exact ⟨rfl, N1, K1, p1_0, p1_1, p1_2, p1_3, p1_4⟩
abbrev oF_apI7 (m : MethodId) (pc : Nat) (a0 a1 a2 a3 : Slot) (S : List Value) : JFrame := mkF m pc #[a0, a1, a2, a3] S
theorem own_ef_apI7 (m : MethodId) (x0 : Addr) (x1 : Int32) : entryFrame m #[(.ref x0), (.int x1)] 4 = mkF m 0 #[(oR x0), (oi x1), .unset, .unset] [] := by first | (simp [entryFrame, mkF, argsToLocals, Value.category]; done) | rfl
def own_Q_apI7 (Z : State) (sb : Addr) (cz : Int32) (dg bv : Addr) (cld : Cell) (kb : ClassId) (w0 w1 w2 w3 w4 : Int32) (h0 : Heap) (n0 : Nat) (v : Option Value) (h : Heap) (L : List Loc) : Prop := v = some (.ref sb) ∧ Fr n0 L ∧ Keep h0 h [sb, bv] ∧ Fld Z h sb "java/lang/AbstractStringBuilder" "value" "[B" (.ref bv) ∧ Fld Z h sb "java/lang/AbstractStringBuilder" "coder" "B" (.int 0) ∧ Fld Z h sb "java/lang/AbstractStringBuilder" "count" "I" (.int 6) ∧ Arv Z h bv kb .byte (16 : Int32) [(.int w0), (.int w1), (.int w2), (.int w3), (.int w4), (.int (nar .byte (atv cld (7 : Int32)))), (.int 0), (.int 0), (.int 0), (.int 0), (.int 0), (.int 0), (.int 0), (.int 0), (.int 0), (.int 0)] (.int 0) ∧ Sta Z h "java/lang/String" "COMPACT_STRINGS" "Z" (.int cz)
set_option maxRecDepth 65536 in
set_option maxHeartbeats 40000000 in
theorem own_rm_apI7 (l : Launch) (Z : State) (a0 : Array Value) (hw : ∀ d ∈ tables_1, d.before a0 Z = true) (ws : List Jvm.Cond) (sb : Addr) (cz : Int32) (dg bv : Addr) (cld : Cell) (kb : ClassId) (w0 w1 w2 w3 w4 : Int32) (h0 : Heap) (n0 : Nat) (Z0 : n0 ≤ h0.size) (hnd : ([sb, dg, bv] : List Addr).Nodup) (g_sb : n0 ≤ sb) (g_bv : n0 ≤ bv) (Sc0 : Sta Z h0 "java/lang/String" "COMPACT_STRINGS" "Z" (.int cz)) (hcz : ¬ cz = (0 : Int32)) (Sd0 : Sta Z h0 "java/lang/Integer" "DigitOnes" "[B" (.ref dg)) (Td0 : Tab Z h0 dg cld .byte (100 : Int32)) (Eb0 : Exa Z h0 sb "java/lang/StringBuilder") (Fbc : Fld Z h0 sb "java/lang/AbstractStringBuilder" "coder" "B" (.int 0)) (Fbv : Fld Z h0 sb "java/lang/AbstractStringBuilder" "value" "[B" (.ref bv)) (Fbn : Fld Z h0 sb "java/lang/AbstractStringBuilder" "count" "I" (.int 5)) (Vv0 : Arv Z h0 bv kb .byte (16 : Int32) [(.int w0), (.int w1), (.int w2), (.int w3), (.int w4), (.int 0), (.int 0), (.int 0), (.int 0), (.int 0), (.int 0), (.int 0), (.int 0), (.int 0), (.int 0), (.int 0)] (.int 0)) :
    MetFree l (⟨"java/lang/AbstractStringBuilder", "append", "(I)Ljava/lang/AbstractStringBuilder;"⟩ : MethodName) (head1 (Jvm.Cond.code (⟨"java/lang/AbstractStringBuilder", "append", "(I)Ljava/lang/AbstractStringBuilder;"⟩ : MethodName) jdk_68_method_32_code 4 (some (.object "java/lang/AbstractStringBuilder")) :: ws) ({ frames := 1, cells := 0, slots := 0, locals := 18 } : Room)) (fun a U => a = #[(.ref sb), (.int 7)] ∧ Z.Warmed39 U.vm ∧ U.heap = h0) (fun _ _ _ _ _ => True) (fun _ U o U' => ∃ v L, o = .returned v ∧ own_Q_apI7 Z sb cz dg bv cld kb w0 w1 w2 w3 w4 h0 n0 v U'.heap L ∧ FrameEnd U o U' L ({ frames := 1, cells := 0, slots := 0, locals := 18 } : Room).cells ({ frames := 1, cells := 0, slots := 0, locals := 18 } : Room).slots) := by
  refine MetFree.of_bodySF (plainFor_of_name own_pn_java_lang_AbstractStringBuilder) hisR ?_
  intro p e s m args below meth c s₁ Bd hml0 hP hKq_
  obtain ⟨rfl, hZ, hh⟩ := hP
  have hx := Bd.exec
  have hby := Bd.bytes
  have hml : c.maxLocals = 4 := hml0
  have hown : s.vm.findClass "java/lang/AbstractStringBuilder" = some m.cls := findClass_of_methodNamed Bd.named
  have hnm := (name_of_methodNamed Bd.named Bd.method).1
  have ow48 := hw _ (List.mem_of_getElem? (i := 48) rfl)
  have ow57 := hw _ (List.mem_of_getElem? (i := 57) rfl)
  have ow64 := hw _ (List.mem_of_getElem? (i := 64) rfl)
  have ow65 := hw _ (List.mem_of_getElem? (i := 65) rfl)
  have ow67 := hw _ (List.mem_of_getElem? (i := 67) rfl)
  have ow83 := hw _ (List.mem_of_getElem? (i := 83) rfl)
  have ow84 := hw _ (List.mem_of_getElem? (i := 84) rfl)
  have ow85 := hw _ (List.mem_of_getElem? (i := 85) rfl)
  have ow86 := hw _ (List.mem_of_getElem? (i := 86) rfl)
  have ow87 := hw _ (List.mem_of_getElem? (i := 87) rfl)
  have ow88 := hw _ (List.mem_of_getElem? (i := 88) rfl)
  have ow89 := hw _ (List.mem_of_getElem? (i := 89) rfl)
  have ow119 := hw _ (List.mem_of_getElem? (i := 119) rfl)
  have ow120 := hw _ (List.mem_of_getElem? (i := 120) rfl)
  have ow121 := hw _ (List.mem_of_getElem? (i := 121) rfl)
  have ow122 := hw _ (List.mem_of_getElem? (i := 122) rfl)
  have ow123 := hw _ (List.mem_of_getElem? (i := 123) rfl)
  have ow124 := hw _ (List.mem_of_getElem? (i := 124) rfl)
  have ow125 := hw _ (List.mem_of_getElem? (i := 125) rfl)
  have ow126 := hw _ (List.mem_of_getElem? (i := 126) rfl)
  have ow127 := hw _ (List.mem_of_getElem? (i := 127) rfl)
  have ow128 := hw _ (List.mem_of_getElem? (i := 128) rfl)
  have ow129 := hw _ (List.mem_of_getElem? (i := 129) rfl)
  have ow130 := hw _ (List.mem_of_getElem? (i := 130) rfl)
  have X0 : Stand p l e ({ frames := 1, cells := 0, slots := 0, locals := 18 } : Room) s m #[(.ref sb), (.int 7)] below meth c s₁ [] 0 0 := Stand.of_body Bd
  have e0 : s₁.heap = h0 := by rw [← hh, Bd.state]; rfl
  have N0 := Fr.nil n0
  have pre0 : ∀ t, Steps p.tables e below (s₁.setTop (mkF m 0 #[(oR sb), (oi 7), .unset, .unset] [])) t → Steps p.tables e below (s₁.setTop (entryFrame m #[(.ref sb), (.int 7)] 4)) t := fun t k => castTop (own_ef_apI7 m sb (7 : Int32)) k
  refine own_go pre0 ?_
  refine own_abs ?_
  intro Pf hPf
  have od_sb_bv : sb ≠ bv := (own_nd hnd (i := 0) (j := 2) rfl rfl (by decide))
  have nn_dg : dg ∉ ([sb, bv] : List Addr) := (ninS (own_nd hnd (i := 1) (j := 0) rfl rfl (by decide)) (ninS (own_nd hnd (i := 1) (j := 2) rfl rfl (by decide)) nin0))
  refine own_go (A := oW p e below s₁ (oF_apI7 m 1 (oR sb) (oi 7) .unset .unset [(.ref sb)])) (fun t k => by
    refine XS.aloadN X0.here hx rfl (hb hby o832_0) rfl rfl ?_
    exact k) ?_
  obtain ⟨T1, X1, e1, st1⟩ := getF X0 hx hZ hown (host := "") (Or.inl ow83) Via.refl e0 Fbn (g := (oF_apI7 m 1 (oR sb) (oi 7) .unset .unset [(.ref sb)])) rfl rfl (hb hby o832_1)
  refine own_go st1 ?_
  refine own_go (A := oW p e below T1 (oF_apI7 m 7 (oR sb) (oi 7) (oi 5) .unset [(.int 7), (.int 5)])) (fun t k => by
    refine XS.istoreN X1.here hx rfl (hb hby o832_4) rfl (l' := #[(oR sb), (oi 7), (oi 5), .unset]) rfl ?_
    show oW p e below T1 (oF_apI7 m 5 (oR sb) (oi 7) (oi 5) .unset []) _
    refine XS.iloadN X1.here hx rfl (hb hby o832_5) rfl ?_
    show oW p e below T1 (oF_apI7 m 6 (oR sb) (oi 7) (oi 5) .unset [(.int 5)]) _
    refine XS.iloadN X1.here hx rfl (hb hby o832_6) rfl ?_
    exact k) ?_
  obtain ⟨_, _, ⟨T2, L2, k2, n2⟩, -, X2, ⟨Lc2, hQ2, l2, y2, z2⟩, st2⟩ := Jvm.LawKit.callS X1 hx (y := (⟨"java/lang/Integer", "stringSize", "(I)I"⟩ : MethodName)) hown (mvT hZ ow119) (mvT hZ ow120) (mvT hZ ow121) (mvT hZ ow122) (by decide) (backOf (W := 1) (own_rm_size7 l Z a0 hw []  h0 n0 Z0 ) hZ ow122 ow121 (by decide) (by decide)) (g := (oF_apI7 m 7 (oR sb) (oi 7) (oi 5) .unset [(.int 7), (.int 5)])) rfl (by rw [hml]; rfl) (argsL := [(.int 7)]) (rest := [(.int 5)]) (lenOf own_pd_28I29I rfl) rfl (by show 2 * 0 + _ ≤ _; exact Nat.le_of_eq rfl) (hb hby o832_7) (fun _ _ => ⟨rfl, e1, (by decide : 0 + 0 ≤ _), (by decide : 0 + 0 ≤ _)⟩)
  dsimp only [Pt.U, Pt.locs, Pt.cells, Pt.slots] at X2 l2 y2 z2 st2 hQ2
  subst l2 y2 z2
  obtain ⟨rfl, N2q, eh2⟩ := hQ2
  have N2 := Fr.app N0 N2q
  refine own_go st2 ?_
  refine own_go (A := oW p e below T2 (oF_apI7 m 14 (oR sb) (oi 7) (oi 5) (oi 6) [(.int 6), (.ref sb)])) (fun t k => by
    refine XS.iadd X2.here hx rfl (hb hby o832_10) rfl ?_
    show oW p e below T2 (oF_apI7 m 11 (oR sb) (oi 7) (oi 5) .unset [(.int 6)]) _
    refine XS.istoreN X2.here hx rfl (hb hby o832_11) rfl (l' := #[(oR sb), (oi 7), (oi 5), (oi 6)]) rfl ?_
    show oW p e below T2 (oF_apI7 m 12 (oR sb) (oi 7) (oi 5) (oi 6) []) _
    refine XS.aloadN X2.here hx rfl (hb hby o832_12) rfl rfl ?_
    show oW p e below T2 (oF_apI7 m 13 (oR sb) (oi 7) (oi 5) (oi 6) [(.ref sb)]) _
    refine XS.iloadN X2.here hx rfl (hb hby o832_13) rfl ?_
    exact k) ?_
  obtain ⟨cq3, q3a, q3b⟩ := Exa.cell Eb0
  obtain ⟨_, _, ⟨T3, L3, k3, n3⟩, -, X3, ⟨Lc3, hQ3, l3, y3, z3⟩, st3⟩ := own_privBack X2 hx (y := (⟨"java/lang/AbstractStringBuilder", "ensureCapacityInternal", "(I)V"⟩ : MethodName)) (z := (⟨"java/lang/AbstractStringBuilder", "ensureCapacityInternal", "(I)V"⟩ : MethodName)) (w := (⟨"java/lang/AbstractStringBuilder", "ensureCapacityInternal", "(I)V"⟩ : MethodName)) hown (mvT hZ ow85) (mvT hZ ow86) (mvT hZ ow88) rfl (Cond.privateMethod_at (mvP hZ ow87 (args := #[]))) (mvT hZ ow89) (by decide) (backOf (W := 0) (own_rm_ens6 l Z a0 hw [] sb bv kb w0 w1 w2 w3 w4 h0 n0 Z0 Eb0 Fbc Fbv Vv0) hZ ow89 ow57 (by decide) (by decide)) (g := (oF_apI7 m 14 (oR sb) (oi 7) (oi 5) (oi 6) [(.int 6), (.ref sb)])) rfl (by rw [hml]; rfl) (Steps.refl _) (a := sb) (by rw [eh2]; exact q3a) q3b (argsL := [(.int 6)]) (rest := []) (lenOf own_pd_28I29V rfl) rfl (by show 2 * 0 + _ ≤ _; exact Nat.le_of_eq rfl) (hb hby o832_14) (fun _ _ => ⟨rfl, eh2, (by decide : 0 + 0 ≤ _), (by decide : 0 + 0 ≤ _)⟩)
  dsimp only [Pt.U, Pt.locs, Pt.cells, Pt.slots] at X3 l3 y3 z3 st3 hQ3
  subst l3 y3 z3
  obtain ⟨rfl, N3q, eh3⟩ := hQ3
  have N3 := Fr.app N2 N3q
  refine own_go (fun _ k => st3.trans k) ?_
  refine own_go (A := oW p e below T3 (oF_apI7 m 18 (oR sb) (oi 7) (oi 5) (oi 6) [(.ref sb)])) (fun t k => by
    refine XS.aloadN X3.here hx rfl (hb hby o832_17) rfl rfl ?_
    exact k) ?_
  obtain ⟨cq4, kq4, q4a, q4b, q4c⟩ := isOf hZ eh3 Eb0
  obtain ⟨_, _, ⟨T4, L4, k4, n4⟩, -, X4, ⟨Lc4, hQ4, l4, y4, z4⟩, st4⟩ := X3.virtualBack hx (y := (⟨"java/lang/AbstractStringBuilder", "isLatin1", "()Z"⟩ : MethodName)) (z := (⟨"java/lang/AbstractStringBuilder", "isLatin1", "()Z"⟩ : MethodName)) hown (mvT hZ ow123) (mvT hZ ow124) (notFace_of_selects (args := #[]) (mvT hZ ow126)) (mvT hZ ow126) (mvT hZ ow125) (by decide) (backOf (W := 0) (own_rm_isLB l Z a0 hw [] sb cz h0 n0 Z0 Sc0 hcz Eb0 Fbc) hZ ow127 ow57 (by decide) (by decide)) q4a q4c (g := (oF_apI7 m 18 (oR sb) (oi 7) (oi 5) (oi 6) [(.ref sb)])) rfl (by rw [hml]; rfl) (Steps.refl _) (argsL := []) (rest := []) (lenOf own_pd_2829Z rfl) rfl (by show 2 * 0 + _ ≤ _; exact Nat.le_of_eq rfl) (hb hby o832_18) (fun _ _ => ⟨rfl, eh3, (by decide : 0 + 0 ≤ _), (by decide : 0 + 0 ≤ _)⟩)
  dsimp only [Pt.U, Pt.locs, Pt.cells, Pt.slots] at X4 l4 y4 z4 st4 hQ4
  subst l4 y4 z4
  obtain ⟨rfl, N4q, eh4⟩ := hQ4
  have N4 := Fr.app N3 N4q
  refine own_go (fun _ k => st4.trans k) ?_
  refine own_go (A := oW p e below T4 (oF_apI7 m 27 (oR sb) (oi 7) (oi 5) (oi 6) [(.ref sb), (.int 6), (.int 7)])) (fun t k => by
    refine XS.ifNo X4.here hx rfl (hb hby o832_21) rfl ((if0 _ _).trans (feq (by decide : ¬ ((1 : Int32) = (0 : Int32)))).1) ?_
    show oW p e below T4 (oF_apI7 m 24 (oR sb) (oi 7) (oi 5) (oi 6) []) _
    refine XS.iloadN X4.here hx rfl (hb hby o832_24) rfl ?_
    show oW p e below T4 (oF_apI7 m 25 (oR sb) (oi 7) (oi 5) (oi 6) [(.int 7)]) _
    refine XS.iloadN X4.here hx rfl (hb hby o832_25) rfl ?_
    show oW p e below T4 (oF_apI7 m 26 (oR sb) (oi 7) (oi 5) (oi 6) [(.int 6), (.int 7)]) _
    refine XS.aloadN X4.here hx rfl (hb hby o832_26) rfl rfl ?_
    exact k) ?_
  obtain ⟨T5, X5, e5, st5⟩ := getF X4 hx hZ hown (host := "") (Or.inl ow64) Via.refl eh4 Fbv (g := (oF_apI7 m 27 (oR sb) (oi 7) (oi 5) (oi 6) [(.ref sb), (.int 6), (.int 7)])) rfl rfl (hb hby o832_27)
  refine own_go st5 ?_
  obtain ⟨_, _, ⟨T6, L6, k6, n6⟩, -, X6, ⟨Lc6, hQ6, l6, y6, z6⟩, st6⟩ := Jvm.LawKit.callS X5 hx (y := (⟨"java/lang/Integer", "getChars", "(II[B)I"⟩ : MethodName)) hown (mvT hZ ow128) (mvT hZ ow129) (mvT hZ ow121) (mvT hZ ow130) (by decide) (backOf (W := 0) (own_rm_getC7 l Z a0 hw [] bv cz dg cld kb w0 w1 w2 w3 w4 h0 n0 Z0 (own_ndS (ninS (own_nd hnd (i := 1) (j := 2) rfl rfl (by decide)) nin0) (own_ndS nin0 List.nodup_nil)) g_bv Sc0 hcz Sd0 Td0 Vv0) hZ ow130 ow121 (by decide) (by decide)) (g := (oF_apI7 m 30 (oR sb) (oi 7) (oi 5) (oi 6) [(.ref bv), (.int 6), (.int 7)])) rfl (by rw [hml]; rfl) (argsL := [(.int 7), (.int 6), (.ref bv)]) (rest := []) (lenOf own_pd_28II5bB29I rfl) rfl (by show 2 * 0 + _ ≤ _; exact Nat.le_of_eq rfl) (hb hby o832_30) (fun _ _ => ⟨rfl, e5, (by decide : 0 + 0 ≤ _), (by decide : 0 + 0 ≤ _)⟩)
  dsimp only [Pt.U, Pt.locs, Pt.cells, Pt.slots] at X6 l6 y6 z6 st6 hQ6
  subst l6 y6 z6
  obtain ⟨rfl, N6q, K6q, p6_0, p6_1⟩ := hQ6
  have N6 := Fr.app N4 N6q
  have f6_4 : Fld Z T6.heap sb "java/lang/AbstractStringBuilder" "coder" "B" (.int 0) := Fbc.keep K6q (ninS od_sb_bv nin0)
  have f6_5 : Fld Z T6.heap sb "java/lang/AbstractStringBuilder" "value" "[B" (.ref bv) := Fbv.keep K6q (ninS od_sb_bv nin0)
  have f6_6 : Fld Z T6.heap sb "java/lang/AbstractStringBuilder" "count" "I" (.int 5) := Fbn.keep K6q (ninS od_sb_bv nin0)
  have Z6 : n0 ≤ T6.heap.size := Nat.le_trans Z0 K6q.1
  have K6 : Keep h0 T6.heap [sb, bv] := (Keep.refl h0 [sb, bv]).trans K6q (allS (Or.inl (List.mem_of_getElem? (i := 1) rfl)) all0)
  refine own_go st6 ?_
  refine own_go (A := oW p e below T6 (oF_apI7 m 50 (oR sb) (oi 7) (oi 5) (oi 6) [(.int 6), (.ref sb)])) (fun t k => by
    refine XS.pop X6.here hx rfl (hb hby o832_33) rfl rfl ?_
    show oW p e below T6 (oF_apI7 m 34 (oR sb) (oi 7) (oi 5) (oi 6) []) _
    refine XS.goto X6.here hx rfl (pc0 := 34) (pc' := 48) rfl (hb hby o832_34) (by decide) (by decide) ?_
    show oW p e below T6 (oF_apI7 m 48 (oR sb) (oi 7) (oi 5) (oi 6) []) _
    refine XS.aloadN X6.here hx rfl (hb hby o832_48) rfl rfl ?_
    show oW p e below T6 (oF_apI7 m 49 (oR sb) (oi 7) (oi 5) (oi 6) [(.ref sb)]) _
    refine XS.iloadN X6.here hx rfl (hb hby o832_49) rfl ?_
    exact k) ?_
  obtain ⟨T7, h7, X7, e7, W7, st7⟩ := putF X6 hx hZ hown (host := "") (Or.inl ow83) Via.refl rfl f6_6 (Eb0.keep K6) (Or.inl ow84) ow48 (ty := .int) (by decide) rfl rfl (g := (oF_apI7 m 50 (oR sb) (oi 7) (oi 5) (oi 6) [(.int 6), (.ref sb)])) rfl rfl (hb hby o832_50)
  refine own_go st7 ?_
  have f7_2 : Fld Z h7 sb "java/lang/AbstractStringBuilder" "coder" "B" (.int 0) := f6_4.other W7 (Or.inr (slot_ne (Or.inl ow67) (Or.inl ow84) (by decide) (t := .byte) (t' := .int) (by decide) (by decide)))
  have f7_3 : Fld Z h7 sb "java/lang/AbstractStringBuilder" "value" "[B" (.ref bv) := f6_5.other W7 (Or.inr (slot_ne (Or.inl ow65) (Or.inl ow84) (by decide) (t := (.array .byte)) (t' := .int) (by decide) (by decide)))
  have f7_4 : Fld Z h7 sb "java/lang/AbstractStringBuilder" "count" "I" (.int 6) := f6_6.same W7
  have f7_5 : Arv Z h7 bv kb .byte (16 : Int32) [(.int w0), (.int w1), (.int w2), (.int w3), (.int w4), (.int (nar .byte (atv cld (7 : Int32)))), (.int 0), (.int 0), (.int 0), (.int 0), (.int 0), (.int 0), (.int 0), (.int 0), (.int 0), (.int 0)] (.int 0) := p6_0.other W7 (od_sb_bv.symm)
  have f7_6 : Sta Z h7 "java/lang/String" "COMPACT_STRINGS" "Z" (.int cz) := p6_1.wr W7
  have N7 := Fr.snoc X7 N6 g_sb
  have Z7 : n0 ≤ h7.size := Nat.le_trans Z6 (Keep.of_wr W7).1
  have K7 : Keep h0 h7 [sb, bv] := K6.wr W7 (Or.inl (List.mem_of_getElem? (i := 0) rfl))
  refine own_go (A := oW p e below T7 (oF_apI7 m 54 (oR sb) (oi 7) (oi 5) (oi 6) [(.ref sb)])) (fun t k => by
    refine XS.aloadN X7.here hx rfl (hb hby o832_53) rfl rfl ?_
    exact k) ?_
  obtain ⟨fs, hr, hrun, hended, hW, hsame⟩ := X7.leave (v := some (.ref sb)) (fun h => by rw [Bd.returns] at h; cases h)
  refine ⟨_, _, retOut X7 hx Bd.returns rfl (Or.inr (Or.inr (Or.inr (Or.inr ⟨rfl, rfl, rfl⟩)))) (hb hby o832_54) hr, hPf _ _ ⟨hrun, hended, _, _, rfl, ?_, ⟨_, rfl⟩, hW, hsame.mono (by decide) (by decide)⟩⟩
  show own_Q_apI7 Z sb cz dg bv cld kb w0 w1 w2 w3 w4 h0 n0 _ T7.heap _
  rw [e7]
  exact ⟨rfl, N7, K7, f7_3, f7_2, f7_4, f7_5, f7_6⟩
abbrev oF_apJ7 (m : MethodId) (pc : Nat) (a0 a1 : Slot) (S : List Value) : JFrame := mkF m pc #[a0, a1] S
theorem own_ef_apJ7 (m : MethodId) (x0 : Addr) (x1 : Int32) : entryFrame m #[(.ref x0), (.int x1)] 2 = mkF m 0 #[(oR x0), (oi x1)] [] := by first | (simp [entryFrame, mkF, argsToLocals, Value.category]; done) | rfl
def own_Q_apJ7 (Z : State) (sb : Addr) (cz : Int32) (dg bv : Addr) (cld : Cell) (kb : ClassId) (w0 w1 w2 w3 w4 : Int32) (h0 : Heap) (n0 : Nat) (v : Option Value) (h : Heap) (L : List Loc) : Prop := v = some (.ref sb) ∧ Fr n0 L ∧ Keep h0 h [sb, bv] ∧ Fld Z h sb "java/lang/AbstractStringBuilder" "value" "[B" (.ref bv) ∧ Fld Z h sb "java/lang/AbstractStringBuilder" "coder" "B" (.int 0) ∧ Fld Z h sb "java/lang/AbstractStringBuilder" "count" "I" (.int 6) ∧ Arv Z h bv kb .byte (16 : Int32) [(.int w0), (.int w1), (.int w2), (.int w3), (.int w4), (.int (nar .byte (atv cld (7 : Int32)))), (.int 0), (.int 0), (.int 0), (.int 0), (.int 0), (.int 0), (.int 0), (.int 0), (.int 0), (.int 0)] (.int 0) ∧ Sta Z h "java/lang/String" "COMPACT_STRINGS" "Z" (.int cz)
set_option maxRecDepth 65536 in
set_option maxHeartbeats 40000000 in
theorem own_rm_apJ7 (l : Launch) (Z : State) (a0 : Array Value) (hw : ∀ d ∈ tables_1, d.before a0 Z = true) (ws : List Jvm.Cond) (sb : Addr) (cz : Int32) (dg bv : Addr) (cld : Cell) (kb : ClassId) (w0 w1 w2 w3 w4 : Int32) (h0 : Heap) (n0 : Nat) (Z0 : n0 ≤ h0.size) (hnd : ([sb, dg, bv] : List Addr).Nodup) (g_sb : n0 ≤ sb) (g_bv : n0 ≤ bv) (Sc0 : Sta Z h0 "java/lang/String" "COMPACT_STRINGS" "Z" (.int cz)) (hcz : ¬ cz = (0 : Int32)) (Sd0 : Sta Z h0 "java/lang/Integer" "DigitOnes" "[B" (.ref dg)) (Td0 : Tab Z h0 dg cld .byte (100 : Int32)) (Eb0 : Exa Z h0 sb "java/lang/StringBuilder") (Fbc : Fld Z h0 sb "java/lang/AbstractStringBuilder" "coder" "B" (.int 0)) (Fbv : Fld Z h0 sb "java/lang/AbstractStringBuilder" "value" "[B" (.ref bv)) (Fbn : Fld Z h0 sb "java/lang/AbstractStringBuilder" "count" "I" (.int 5)) (Vv0 : Arv Z h0 bv kb .byte (16 : Int32) [(.int w0), (.int w1), (.int w2), (.int w3), (.int w4), (.int 0), (.int 0), (.int 0), (.int 0), (.int 0), (.int 0), (.int 0), (.int 0), (.int 0), (.int 0), (.int 0)] (.int 0)) :
    MetFree l (⟨"java/lang/StringBuilder", "append", "(I)Ljava/lang/StringBuilder;"⟩ : MethodName) (head1 (Jvm.Cond.code (⟨"java/lang/StringBuilder", "append", "(I)Ljava/lang/StringBuilder;"⟩ : MethodName) jdk_67_method_15_code 2 (some (.object "java/lang/StringBuilder")) :: ws) ({ frames := 2, cells := 0, slots := 0, locals := 33 } : Room)) (fun a U => a = #[(.ref sb), (.int 7)] ∧ Z.Warmed39 U.vm ∧ U.heap = h0) (fun _ _ _ _ _ => True) (fun _ U o U' => ∃ v L, o = .returned v ∧ own_Q_apJ7 Z sb cz dg bv cld kb w0 w1 w2 w3 w4 h0 n0 v U'.heap L ∧ FrameEnd U o U' L ({ frames := 2, cells := 0, slots := 0, locals := 33 } : Room).cells ({ frames := 2, cells := 0, slots := 0, locals := 33 } : Room).slots) := by
  refine MetFree.of_bodySF (plainFor_of_name own_pn_java_lang_StringBuilder) hisR ?_
  intro p e s m args below meth c s₁ Bd hml0 hP hKq_
  obtain ⟨rfl, hZ, hh⟩ := hP
  have hx := Bd.exec
  have hby := Bd.bytes
  have hml : c.maxLocals = 2 := hml0
  have hown : s.vm.findClass "java/lang/StringBuilder" = some m.cls := findClass_of_methodNamed Bd.named
  have hnm := (name_of_methodNamed Bd.named Bd.method).1
  have ow57 := hw _ (List.mem_of_getElem? (i := 57) rfl)
  have ow79 := hw _ (List.mem_of_getElem? (i := 79) rfl)
  have ow88 := hw _ (List.mem_of_getElem? (i := 88) rfl)
  have ow115 := hw _ (List.mem_of_getElem? (i := 115) rfl)
  have ow116 := hw _ (List.mem_of_getElem? (i := 116) rfl)
  have ow118 := hw _ (List.mem_of_getElem? (i := 118) rfl)
  have X0 : Stand p l e ({ frames := 2, cells := 0, slots := 0, locals := 33 } : Room) s m #[(.ref sb), (.int 7)] below meth c s₁ [] 0 0 := Stand.of_body Bd
  have e0 : s₁.heap = h0 := by rw [← hh, Bd.state]; rfl
  have N0 := Fr.nil n0
  have pre0 : ∀ t, Steps p.tables e below (s₁.setTop (mkF m 0 #[(oR sb), (oi 7)] [])) t → Steps p.tables e below (s₁.setTop (entryFrame m #[(.ref sb), (.int 7)] 2)) t := fun t k => castTop (own_ef_apJ7 m sb (7 : Int32)) k
  refine own_go pre0 ?_
  refine own_abs ?_
  intro Pf hPf
  have od_sb_bv : sb ≠ bv := (own_nd hnd (i := 0) (j := 2) rfl rfl (by decide))
  have nn_dg : dg ∉ ([sb, bv] : List Addr) := (ninS (own_nd hnd (i := 1) (j := 0) rfl rfl (by decide)) (ninS (own_nd hnd (i := 1) (j := 2) rfl rfl (by decide)) nin0))
  refine own_go (A := oW p e below s₁ (oF_apJ7 m 2 (oR sb) (oi 7) [(.int 7), (.ref sb)])) (fun t k => by
    refine XS.aloadN X0.here hx rfl (hb hby o715_0) rfl rfl ?_
    show oW p e below s₁ (oF_apJ7 m 1 (oR sb) (oi 7) [(.ref sb)]) _
    refine XS.iloadN X0.here hx rfl (hb hby o715_1) rfl ?_
    exact k) ?_
  obtain ⟨_, _, ⟨T1, L1, k1, n1⟩, -, X1, ⟨Lc1, hQ1, l1, y1, z1⟩, st1⟩ := superBack X0 hx hZ (y := (⟨"java/lang/AbstractStringBuilder", "append", "(I)Ljava/lang/AbstractStringBuilder;"⟩ : MethodName)) hown ow115 (own_same (y := (⟨"java/lang/AbstractStringBuilder", "append", "(I)Ljava/lang/AbstractStringBuilder;"⟩ : MethodName)) (w := (⟨"java/lang/AbstractStringBuilder", "ensureCapacityInternal", "(I)V"⟩ : MethodName)) ow116 ow88 rfl (by decide)) ow116 ow79 (by decide) (backOf (W := 0) (own_rm_apI7 l Z a0 hw [] sb cz dg bv cld kb w0 w1 w2 w3 w4 h0 n0 Z0 (own_ndS (ninS (own_nd hnd (i := 0) (j := 1) rfl rfl (by decide)) (ninS od_sb_bv nin0)) (own_ndS (ninS (own_nd hnd (i := 1) (j := 2) rfl rfl (by decide)) nin0) (own_ndS nin0 List.nodup_nil))) g_sb g_bv Sc0 hcz Sd0 Td0 Eb0 Fbc Fbv Fbn Vv0) hZ ow118 ow57 (by decide) (by decide)) e0 (Ins.self Eb0) (g := (oF_apJ7 m 2 (oR sb) (oi 7) [(.int 7), (.ref sb)])) rfl (by rw [hml]; rfl) ow118 (argsL := [(.int 7)]) (rest := []) (lenOf own_pd_28I29Ljava2flang2fAbstractStringBuilder3b rfl) rfl (by show 2 * 0 + _ ≤ _; exact Nat.le_of_eq rfl) (hb hby o715_2) (fun _ _ => ⟨rfl, e0, (by decide : 0 + 0 ≤ _), (by decide : 0 + 0 ≤ _)⟩)
  dsimp only [Pt.U, Pt.locs, Pt.cells, Pt.slots] at X1 l1 y1 z1 st1 hQ1
  subst l1 y1 z1
  obtain ⟨rfl, N1q, K1q, p1_0, p1_1, p1_2, p1_3, p1_4⟩ := hQ1
  have N1 := Fr.app N0 N1q
  have Z1 : n0 ≤ T1.heap.size := Nat.le_trans Z0 K1q.1
  have K1 : Keep h0 T1.heap [sb, bv] := (Keep.refl h0 [sb, bv]).trans K1q (allS (Or.inl (List.mem_of_getElem? (i := 0) rfl)) (allS (Or.inl (List.mem_of_getElem? (i := 1) rfl)) all0))
  refine own_go (fun _ k => st1.trans k) ?_
  refine own_go (A := oW p e below T1 (oF_apJ7 m 7 (oR sb) (oi 7) [(.ref sb)])) (fun t k => by
    refine XS.pop X1.here hx rfl (hb hby o715_5) rfl rfl ?_
    show oW p e below T1 (oF_apJ7 m 6 (oR sb) (oi 7) []) _
    refine XS.aloadN X1.here hx rfl (hb hby o715_6) rfl rfl ?_
    exact k) ?_
  obtain ⟨fs, hr, hrun, hended, hW, hsame⟩ := X1.leave (v := some (.ref sb)) (fun h => by rw [Bd.returns] at h; cases h)
  refine ⟨_, _, retOut X1 hx Bd.returns rfl (Or.inr (Or.inr (Or.inr (Or.inr ⟨rfl, rfl, rfl⟩)))) (hb hby o715_7) hr, hPf _ _ ⟨hrun, hended, _, _, rfl, ?_, ⟨_, rfl⟩, hW, hsame.mono (by decide) (by decide)⟩⟩
  show own_Q_apJ7 Z sb cz dg bv cld kb w0 w1 w2 w3 w4 h0 n0 _ T1.heap _
  exact ⟨rfl, N1, K1, p1_0, p1_1, p1_2, p1_3, p1_4⟩
abbrev oF_getV (m : MethodId) (pc : Nat) (a0 : Slot) (S : List Value) : JFrame := mkF m pc #[a0] S
theorem o864_0 : decode jdk_68_method_64_code 0 = .ok (.aload_n 0, 1) := by decide +kernel
theorem o864_1 : decode jdk_68_method_64_code 1 = .ok (.getfield 15, 3) := by decide +kernel
theorem o864_4 : decode jdk_68_method_64_code 4 = .ok (.areturn, 1) := by decide +kernel
theorem own_ef_getV (m : MethodId) (x0 : Addr) : entryFrame m #[(.ref x0)] 1 = mkF m 0 #[(oR x0)] [] := by first | (simp [entryFrame, mkF, argsToLocals, Value.category]; done) | rfl
def own_Q_getV (Z : State) (sb : Addr) (bv : Addr) (h0 : Heap) (n0 : Nat) (v : Option Value) (h : Heap) (L : List Loc) : Prop := v = some (.ref bv) ∧ Fr n0 L ∧ h = h0
set_option maxRecDepth 65536 in
set_option maxHeartbeats 40000000 in
theorem own_rm_getV (l : Launch) (Z : State) (a0 : Array Value) (hw : ∀ d ∈ tables_1, d.before a0 Z = true) (ws : List Jvm.Cond) (sb : Addr) (bv : Addr) (h0 : Heap) (n0 : Nat) (Z0 : n0 ≤ h0.size) (Eb0 : Exa Z h0 sb "java/lang/StringBuilder") (Fbc : Fld Z h0 sb "java/lang/AbstractStringBuilder" "coder" "B" (.int 0)) (Fbv : Fld Z h0 sb "java/lang/AbstractStringBuilder" "value" "[B" (.ref bv)) :
    MetFree l (⟨"java/lang/AbstractStringBuilder", "getValue", "()[B"⟩ : MethodName) (head1 (Jvm.Cond.code (⟨"java/lang/AbstractStringBuilder", "getValue", "()[B"⟩ : MethodName) jdk_68_method_64_code 1 (some (.array .byte)) :: ws) ({ frames := 0, cells := 0, slots := 0, locals := 0 } : Room)) (fun a U => a = #[(.ref sb)] ∧ Z.Warmed39 U.vm ∧ U.heap = h0) (fun _ _ _ _ _ => True) (fun _ U o U' => ∃ v L, o = .returned v ∧ own_Q_getV Z sb bv h0 n0 v U'.heap L ∧ FrameEnd U o U' L ({ frames := 0, cells := 0, slots := 0, locals := 0 } : Room).cells ({ frames := 0, cells := 0, slots := 0, locals := 0 } : Room).slots) := by
  refine MetFree.of_bodySF (plainFor_of_name own_pn_java_lang_AbstractStringBuilder) hisR ?_
  intro p e s m args below meth c s₁ Bd hml0 hP hKq_
  obtain ⟨rfl, hZ, hh⟩ := hP
  have hx := Bd.exec
  have hby := Bd.bytes
  have hml : c.maxLocals = 1 := hml0
  have hown : s.vm.findClass "java/lang/AbstractStringBuilder" = some m.cls := findClass_of_methodNamed Bd.named
  have hnm := (name_of_methodNamed Bd.named Bd.method).1
  have ow64 := hw _ (List.mem_of_getElem? (i := 64) rfl)
  have X0 : Stand p l e ({ frames := 0, cells := 0, slots := 0, locals := 0 } : Room) s m #[(.ref sb)] below meth c s₁ [] 0 0 := Stand.of_body Bd
  have e0 : s₁.heap = h0 := by rw [← hh, Bd.state]; rfl
  have N0 := Fr.nil n0
  have pre0 : ∀ t, Steps p.tables e below (s₁.setTop (mkF m 0 #[(oR sb)] [])) t → Steps p.tables e below (s₁.setTop (entryFrame m #[(.ref sb)] 1)) t := fun t k => castTop (own_ef_getV m sb) k
  refine own_go pre0 ?_
  refine own_abs ?_
  intro Pf hPf
  refine own_go (A := oW p e below s₁ (oF_getV m 1 (oR sb) [(.ref sb)])) (fun t k => by
    refine XS.aloadN X0.here hx rfl (hb hby o864_0) rfl rfl ?_
    exact k) ?_
  obtain ⟨T1, X1, e1, st1⟩ := getF X0 hx hZ hown (host := "") (Or.inl ow64) Via.refl e0 Fbv (g := (oF_getV m 1 (oR sb) [(.ref sb)])) rfl rfl (hb hby o864_1)
  refine own_go st1 ?_
  obtain ⟨fs, hr, hrun, hended, hW, hsame⟩ := X1.leave (v := some (.ref bv)) (fun h => by rw [Bd.returns] at h; cases h)
  refine ⟨_, _, retOut X1 hx Bd.returns rfl (Or.inr (Or.inr (Or.inr (Or.inr ⟨rfl, rfl, rfl⟩)))) (hb hby o864_4) hr, hPf _ _ ⟨hrun, hended, _, _, rfl, ?_, ⟨_, rfl⟩, hW, hsame.mono (by decide) (by decide)⟩⟩
  show own_Q_getV Z sb bv h0 n0 _ T1.heap _
  rw [e1]
  exact ⟨rfl, N0, rfl⟩
abbrev oF_lnA (m : MethodId) (pc : Nat) (a0 : Slot) (S : List Value) : JFrame := mkF m pc #[a0] S
theorem o686_0 : decode jdk_68_method_6_code 0 = .ok (.aload_n 0, 1) := by decide +kernel
theorem o686_1 : decode jdk_68_method_6_code 1 = .ok (.getfield 79, 3) := by decide +kernel
theorem o686_4 : decode jdk_68_method_6_code 4 = .ok (.ireturn, 1) := by decide +kernel
theorem own_ef_lnA (m : MethodId) (x0 : Addr) : entryFrame m #[(.ref x0)] 1 = mkF m 0 #[(oR x0)] [] := by first | (simp [entryFrame, mkF, argsToLocals, Value.category]; done) | rfl
def own_Q_lnA (Z : State) (sb : Addr)  (h0 : Heap) (n0 : Nat) (v : Option Value) (h : Heap) (L : List Loc) : Prop := v = some (.int 6) ∧ Fr n0 L ∧ h = h0
set_option maxRecDepth 65536 in
set_option maxHeartbeats 40000000 in
theorem own_rm_lnA (l : Launch) (Z : State) (a0 : Array Value) (hw : ∀ d ∈ tables_1, d.before a0 Z = true) (ws : List Jvm.Cond) (sb : Addr)  (h0 : Heap) (n0 : Nat) (Z0 : n0 ≤ h0.size) (Eb0 : Exa Z h0 sb "java/lang/StringBuilder") (Fbn : Fld Z h0 sb "java/lang/AbstractStringBuilder" "count" "I" (.int 6)) :
    MetFree l (⟨"java/lang/AbstractStringBuilder", "length", "()I"⟩ : MethodName) (head1 (Jvm.Cond.code (⟨"java/lang/AbstractStringBuilder", "length", "()I"⟩ : MethodName) jdk_68_method_6_code 1 (some .int) :: ws) ({ frames := 0, cells := 0, slots := 0, locals := 0 } : Room)) (fun a U => a = #[(.ref sb)] ∧ Z.Warmed39 U.vm ∧ U.heap = h0) (fun _ _ _ _ _ => True) (fun _ U o U' => ∃ v L, o = .returned v ∧ own_Q_lnA Z sb h0 n0 v U'.heap L ∧ FrameEnd U o U' L ({ frames := 0, cells := 0, slots := 0, locals := 0 } : Room).cells ({ frames := 0, cells := 0, slots := 0, locals := 0 } : Room).slots) := by
  refine MetFree.of_bodySF (plainFor_of_name own_pn_java_lang_AbstractStringBuilder) hisR ?_
  intro p e s m args below meth c s₁ Bd hml0 hP hKq_
  obtain ⟨rfl, hZ, hh⟩ := hP
  have hx := Bd.exec
  have hby := Bd.bytes
  have hml : c.maxLocals = 1 := hml0
  have hown : s.vm.findClass "java/lang/AbstractStringBuilder" = some m.cls := findClass_of_methodNamed Bd.named
  have hnm := (name_of_methodNamed Bd.named Bd.method).1
  have ow83 := hw _ (List.mem_of_getElem? (i := 83) rfl)
  have X0 : Stand p l e ({ frames := 0, cells := 0, slots := 0, locals := 0 } : Room) s m #[(.ref sb)] below meth c s₁ [] 0 0 := Stand.of_body Bd
  have e0 : s₁.heap = h0 := by rw [← hh, Bd.state]; rfl
  have N0 := Fr.nil n0
  have pre0 : ∀ t, Steps p.tables e below (s₁.setTop (mkF m 0 #[(oR sb)] [])) t → Steps p.tables e below (s₁.setTop (entryFrame m #[(.ref sb)] 1)) t := fun t k => castTop (own_ef_lnA m sb) k
  refine own_go pre0 ?_
  refine own_abs ?_
  intro Pf hPf
  refine own_go (A := oW p e below s₁ (oF_lnA m 1 (oR sb) [(.ref sb)])) (fun t k => by
    refine XS.aloadN X0.here hx rfl (hb hby o686_0) rfl rfl ?_
    exact k) ?_
  obtain ⟨T1, X1, e1, st1⟩ := getF X0 hx hZ hown (host := "") (Or.inl ow83) Via.refl e0 Fbn (g := (oF_lnA m 1 (oR sb) [(.ref sb)])) rfl rfl (hb hby o686_1)
  refine own_go st1 ?_
  obtain ⟨fs, hr, hrun, hended, hW, hsame⟩ := X1.leave (v := some (.int 6)) (fun h => by rw [Bd.returns] at h; cases h)
  refine ⟨_, _, retOut X1 hx Bd.returns rfl (Or.inl ⟨rfl, Or.inl rfl, _, rfl⟩) (hb hby o686_4) hr, hPf _ _ ⟨hrun, hended, _, _, rfl, ?_, ⟨_, rfl⟩, hW, hsame.mono (by decide) (by decide)⟩⟩
  show own_Q_lnA Z sb h0 n0 _ T1.heap _
  rw [e1]
  exact ⟨rfl, N0, rfl⟩
abbrev oF_lnB (m : MethodId) (pc : Nat) (a0 : Slot) (S : List Value) : JFrame := mkF m pc #[a0] S
theorem o793_0 : decode jdk_67_method_93_code 0 = .ok (.aload_n 0, 1) := by decide +kernel
theorem o793_1 : decode jdk_67_method_93_code 1 = .ok (.invokespecial 343, 3) := by decide +kernel
theorem o793_4 : decode jdk_67_method_93_code 4 = .ok (.ireturn, 1) := by decide +kernel
theorem own_ef_lnB (m : MethodId) (x0 : Addr) : entryFrame m #[(.ref x0)] 1 = mkF m 0 #[(oR x0)] [] := by first | (simp [entryFrame, mkF, argsToLocals, Value.category]; done) | rfl
def own_Q_lnB (Z : State) (sb : Addr)  (h0 : Heap) (n0 : Nat) (v : Option Value) (h : Heap) (L : List Loc) : Prop := v = some (.int 6) ∧ Fr n0 L ∧ h = h0
set_option maxRecDepth 65536 in
set_option maxHeartbeats 40000000 in
theorem own_rm_lnB (l : Launch) (Z : State) (a0 : Array Value) (hw : ∀ d ∈ tables_1, d.before a0 Z = true) (ws : List Jvm.Cond) (sb : Addr)  (h0 : Heap) (n0 : Nat) (Z0 : n0 ≤ h0.size) (Eb0 : Exa Z h0 sb "java/lang/StringBuilder") (Fbn : Fld Z h0 sb "java/lang/AbstractStringBuilder" "count" "I" (.int 6)) :
    MetFree l (⟨"java/lang/StringBuilder", "length", "()I"⟩ : MethodName) (head1 (Jvm.Cond.code (⟨"java/lang/StringBuilder", "length", "()I"⟩ : MethodName) jdk_67_method_93_code 1 (some .int) :: ws) ({ frames := 1, cells := 0, slots := 0, locals := 12 } : Room)) (fun a U => a = #[(.ref sb)] ∧ Z.Warmed39 U.vm ∧ U.heap = h0) (fun _ _ _ _ _ => True) (fun _ U o U' => ∃ v L, o = .returned v ∧ own_Q_lnB Z sb h0 n0 v U'.heap L ∧ FrameEnd U o U' L ({ frames := 1, cells := 0, slots := 0, locals := 12 } : Room).cells ({ frames := 1, cells := 0, slots := 0, locals := 12 } : Room).slots) := by
  refine MetFree.of_bodySF (plainFor_of_name own_pn_java_lang_StringBuilder) hisR ?_
  intro p e s m args below meth c s₁ Bd hml0 hP hKq_
  obtain ⟨rfl, hZ, hh⟩ := hP
  have hx := Bd.exec
  have hby := Bd.bytes
  have hml : c.maxLocals = 1 := hml0
  have hown : s.vm.findClass "java/lang/StringBuilder" = some m.cls := findClass_of_methodNamed Bd.named
  have hnm := (name_of_methodNamed Bd.named Bd.method).1
  have ow57 := hw _ (List.mem_of_getElem? (i := 57) rfl)
  have ow79 := hw _ (List.mem_of_getElem? (i := 79) rfl)
  have ow88 := hw _ (List.mem_of_getElem? (i := 88) rfl)
  have ow153 := hw _ (List.mem_of_getElem? (i := 153) rfl)
  have ow157 := hw _ (List.mem_of_getElem? (i := 157) rfl)
  have ow158 := hw _ (List.mem_of_getElem? (i := 158) rfl)
  have X0 : Stand p l e ({ frames := 1, cells := 0, slots := 0, locals := 12 } : Room) s m #[(.ref sb)] below meth c s₁ [] 0 0 := Stand.of_body Bd
  have e0 : s₁.heap = h0 := by rw [← hh, Bd.state]; rfl
  have N0 := Fr.nil n0
  have pre0 : ∀ t, Steps p.tables e below (s₁.setTop (mkF m 0 #[(oR sb)] [])) t → Steps p.tables e below (s₁.setTop (entryFrame m #[(.ref sb)] 1)) t := fun t k => castTop (own_ef_lnB m sb) k
  refine own_go pre0 ?_
  refine own_abs ?_
  intro Pf hPf
  refine own_go (A := oW p e below s₁ (oF_lnB m 1 (oR sb) [(.ref sb)])) (fun t k => by
    refine XS.aloadN X0.here hx rfl (hb hby o793_0) rfl rfl ?_
    exact k) ?_
  obtain ⟨_, _, ⟨T1, L1, k1, n1⟩, -, X1, ⟨Lc1, hQ1, l1, y1, z1⟩, st1⟩ := superBack X0 hx hZ (y := (⟨"java/lang/AbstractStringBuilder", "length", "()I"⟩ : MethodName)) hown ow157 (own_same (y := (⟨"java/lang/AbstractStringBuilder", "length", "()I"⟩ : MethodName)) (w := (⟨"java/lang/AbstractStringBuilder", "ensureCapacityInternal", "(I)V"⟩ : MethodName)) ow153 ow88 rfl (by decide)) ow153 ow79 (by decide) (backOf (W := 0) (own_rm_lnA l Z a0 hw [] sb h0 n0 Z0 Eb0 Fbn) hZ ow158 ow57 (by decide) (by decide)) e0 (Ins.self Eb0) (g := (oF_lnB m 1 (oR sb) [(.ref sb)])) rfl (by rw [hml]; rfl) ow158 (argsL := []) (rest := []) (lenOf own_pd_2829I rfl) rfl (by show 2 * 0 + _ ≤ _; exact Nat.le_of_eq rfl) (hb hby o793_1) (fun _ _ => ⟨rfl, e0, (by decide : 0 + 0 ≤ _), (by decide : 0 + 0 ≤ _)⟩)
  dsimp only [Pt.U, Pt.locs, Pt.cells, Pt.slots] at X1 l1 y1 z1 st1 hQ1
  subst l1 y1 z1
  obtain ⟨rfl, N1q, eh1⟩ := hQ1
  have N1 := Fr.app N0 N1q
  refine own_go (fun _ k => st1.trans k) ?_
  obtain ⟨fs, hr, hrun, hended, hW, hsame⟩ := X1.leave (v := some (.int 6)) (fun h => by rw [Bd.returns] at h; cases h)
  refine ⟨_, _, retOut X1 hx Bd.returns rfl (Or.inl ⟨rfl, Or.inl rfl, _, rfl⟩) (hb hby o793_4) hr, hPf _ _ ⟨hrun, hended, _, _, rfl, ?_, ⟨_, rfl⟩, hW, hsame.mono (by decide) (by decide)⟩⟩
  show own_Q_lnB Z sb h0 n0 _ T1.heap _
  rw [eh1]
  exact ⟨rfl, N1, rfl⟩
abbrev oF_min (m : MethodId) (pc : Nat) (a0 a1 : Slot) (S : List Value) : JFrame := mkF m pc #[a0, a1] S
theorem o969_0 : decode jdk_29_method_69_code 0 = .ok (.iload_n 0, 1) := by decide +kernel
theorem o969_1 : decode jdk_29_method_69_code 1 = .ok (.iload_n 1, 1) := by decide +kernel
theorem o969_2 : decode jdk_29_method_69_code 2 = .ok (.if_icmp .gt 7, 3) := by decide +kernel
theorem o969_9 : decode jdk_29_method_69_code 9 = .ok (.iload_n 1, 1) := by decide +kernel
theorem o969_10 : decode jdk_29_method_69_code 10 = .ok (.ireturn, 1) := by decide +kernel
theorem own_ef_min (m : MethodId) (x0 : Int32) (x1 : Int32) : entryFrame m #[(.int x0), (.int x1)] 2 = mkF m 0 #[(oi x0), (oi x1)] [] := by first | (simp [entryFrame, mkF, argsToLocals, Value.category]; done) | rfl
def own_Q_min (Z : State)  (h0 : Heap) (n0 : Nat) (v : Option Value) (h : Heap) (L : List Loc) : Prop := v = some (.int 6) ∧ Fr n0 L ∧ h = h0
set_option maxRecDepth 65536 in
set_option maxHeartbeats 40000000 in
theorem own_rm_min (l : Launch) (Z : State) (a0 : Array Value) (hw : ∀ d ∈ tables_1, d.before a0 Z = true) (ws : List Jvm.Cond)  (h0 : Heap) (n0 : Nat) (Z0 : n0 ≤ h0.size) :
    MetFree l (⟨"java/lang/Math", "min", "(II)I"⟩ : MethodName) (head1 (Jvm.Cond.code (⟨"java/lang/Math", "min", "(II)I"⟩ : MethodName) jdk_29_method_69_code 2 (some .int) :: ws) ({ frames := 0, cells := 0, slots := 0, locals := 0 } : Room)) (fun a U => a = #[(.int 16), (.int 6)] ∧ Z.Warmed39 U.vm ∧ U.heap = h0) (fun _ _ _ _ _ => True) (fun _ U o U' => ∃ v L, o = .returned v ∧ own_Q_min Z  h0 n0 v U'.heap L ∧ FrameEnd U o U' L ({ frames := 0, cells := 0, slots := 0, locals := 0 } : Room).cells ({ frames := 0, cells := 0, slots := 0, locals := 0 } : Room).slots) := by
  refine MetFree.of_bodySF (Jvm.Free.JP.mathPlain rfl (by decide +kernel)) hisR ?_
  intro p e s m args below meth c s₁ Bd hml0 hP hKq_
  obtain ⟨rfl, hZ, hh⟩ := hP
  have hx := Bd.exec
  have hby := Bd.bytes
  have hml : c.maxLocals = 2 := hml0
  have hown : s.vm.findClass "java/lang/Math" = some m.cls := findClass_of_methodNamed Bd.named
  have hnm := (name_of_methodNamed Bd.named Bd.method).1
  have X0 : Stand p l e ({ frames := 0, cells := 0, slots := 0, locals := 0 } : Room) s m #[(.int 16), (.int 6)] below meth c s₁ [] 0 0 := Stand.of_body Bd
  have e0 : s₁.heap = h0 := by rw [← hh, Bd.state]; rfl
  have N0 := Fr.nil n0
  have pre0 : ∀ t, Steps p.tables e below (s₁.setTop (mkF m 0 #[(oi 16), (oi 6)] [])) t → Steps p.tables e below (s₁.setTop (entryFrame m #[(.int 16), (.int 6)] 2)) t := fun t k => castTop (own_ef_min m (16 : Int32) (6 : Int32)) k
  refine own_go pre0 ?_
  refine own_abs ?_
  intro Pf hPf
  refine own_go (A := oW p e below s₁ (oF_min m 10 (oi 16) (oi 6) [(.int 6)])) (fun t k => by
    refine XS.iloadN X0.here hx rfl (hb hby o969_0) rfl ?_
    show oW p e below s₁ (oF_min m 1 (oi 16) (oi 6) [(.int 16)]) _
    refine XS.iloadN X0.here hx rfl (hb hby o969_1) rfl ?_
    show oW p e below s₁ (oF_min m 2 (oi 16) (oi 6) [(.int 6), (.int 16)]) _
    refine XS.icmpYes X0.here hx rfl (pc0 := 2) (pc' := 9) rfl (hb hby o969_2) rfl (tlt (by decide : (6 : Int32) < (16 : Int32))).2.2.1 (by decide) (by decide) ?_
    show oW p e below s₁ (oF_min m 9 (oi 16) (oi 6) []) _
    refine XS.iloadN X0.here hx rfl (hb hby o969_9) rfl ?_
    exact k) ?_
  obtain ⟨fs, hr, hrun, hended, hW, hsame⟩ := X0.leave (v := some (.int 6)) (fun h => by rw [Bd.returns] at h; cases h)
  refine ⟨_, _, retOut X0 hx Bd.returns rfl (Or.inl ⟨rfl, Or.inl rfl, _, rfl⟩) (hb hby o969_10) hr, hPf _ _ ⟨hrun, hended, _, _, rfl, ?_, ⟨_, rfl⟩, hW, hsame.mono (by decide) (by decide)⟩⟩
  show own_Q_min Z  h0 n0 _ s₁.heap _
  rw [e0]
  exact ⟨rfl, N0, rfl⟩
abbrev oF_ckL (m : MethodId) (pc : Nat) (a0 a1 : Slot) (S : List Value) : JFrame := mkF m pc #[a0, a1] S
theorem o131_0 : decode jdk_65_method_131_code 0 = .ok (.iload_n 1, 1) := by decide +kernel
theorem o131_1 : decode jdk_65_method_131_code 1 = .ok (.iload_n 0, 1) := by decide +kernel
theorem o131_2 : decode jdk_65_method_131_code 2 = .ok (.if_icmp .ge 35, 3) := by decide +kernel
theorem o131_37 : decode jdk_65_method_131_code 37 = .ok (.return_, 1) := by decide +kernel
theorem own_ef_ckL (m : MethodId) (x0 : Int32) (x1 : Int32) : entryFrame m #[(.int x0), (.int x1)] 2 = mkF m 0 #[(oi x0), (oi x1)] [] := by first | (simp [entryFrame, mkF, argsToLocals, Value.category]; done) | rfl
def own_Q_ckL (Z : State)  (h0 : Heap) (n0 : Nat) (v : Option Value) (h : Heap) (L : List Loc) : Prop := v = none ∧ Fr n0 L ∧ h = h0
theorem own_pn_java_util_Arrays : plainName "java/util/Arrays" = true := by first | (simp [plainName, overriddenIn]; done) | decide +kernel
set_option maxRecDepth 65536 in
set_option maxHeartbeats 40000000 in
theorem own_rm_ckL (l : Launch) (Z : State) (a0 : Array Value) (hw : ∀ d ∈ tables_1, d.before a0 Z = true) (ws : List Jvm.Cond)  (h0 : Heap) (n0 : Nat) (Z0 : n0 ≤ h0.size) :
    MetFree l (⟨"java/util/Arrays", "checkLength", "(II)V"⟩ : MethodName) (head1 (Jvm.Cond.code (⟨"java/util/Arrays", "checkLength", "(II)V"⟩ : MethodName) jdk_65_method_131_code 2 none :: ws) ({ frames := 0, cells := 0, slots := 0, locals := 0 } : Room)) (fun a U => a = #[(.int 0), (.int 6)] ∧ Z.Warmed39 U.vm ∧ U.heap = h0) (fun _ _ _ _ _ => True) (fun _ U o U' => ∃ v L, o = .returned v ∧ own_Q_ckL Z  h0 n0 v U'.heap L ∧ FrameEnd U o U' L ({ frames := 0, cells := 0, slots := 0, locals := 0 } : Room).cells ({ frames := 0, cells := 0, slots := 0, locals := 0 } : Room).slots) := by
  refine MetFree.of_bodySF (plainFor_of_name own_pn_java_util_Arrays) hisR ?_
  intro p e s m args below meth c s₁ Bd hml0 hP hKq_
  obtain ⟨rfl, hZ, hh⟩ := hP
  have hx := Bd.exec
  have hby := Bd.bytes
  have hml : c.maxLocals = 2 := hml0
  have hown : s.vm.findClass "java/util/Arrays" = some m.cls := findClass_of_methodNamed Bd.named
  have hnm := (name_of_methodNamed Bd.named Bd.method).1
  have X0 : Stand p l e ({ frames := 0, cells := 0, slots := 0, locals := 0 } : Room) s m #[(.int 0), (.int 6)] below meth c s₁ [] 0 0 := Stand.of_body Bd
  have e0 : s₁.heap = h0 := by rw [← hh, Bd.state]; rfl
  have N0 := Fr.nil n0
  have pre0 : ∀ t, Steps p.tables e below (s₁.setTop (mkF m 0 #[(oi 0), (oi 6)] [])) t → Steps p.tables e below (s₁.setTop (entryFrame m #[(.int 0), (.int 6)] 2)) t := fun t k => castTop (own_ef_ckL m (0 : Int32) (6 : Int32)) k
  refine own_go pre0 ?_
  refine own_abs ?_
  intro Pf hPf
  refine own_go (A := oW p e below s₁ (oF_ckL m 37 (oi 0) (oi 6) [])) (fun t k => by
    refine XS.iloadN X0.here hx rfl (hb hby o131_0) rfl ?_
    show oW p e below s₁ (oF_ckL m 1 (oi 0) (oi 6) [(.int 6)]) _
    refine XS.iloadN X0.here hx rfl (hb hby o131_1) rfl ?_
    show oW p e below s₁ (oF_ckL m 2 (oi 0) (oi 6) [(.int 0), (.int 6)]) _
    refine XS.icmpYes X0.here hx rfl (pc0 := 2) (pc' := 37) rfl (hb hby o131_2) rfl (flt (by decide : ¬ ((6 : Int32) < (0 : Int32)))).2.1 (by decide) (by decide) ?_
    exact k) ?_
  obtain ⟨fs, hr, hrun, hended, hW, hsame⟩ := X0.leave (v := none) (fun _ => rfl)
  refine ⟨_, _, X0.returnOut hx Bd.returns (hb hby o131_37) hr, hPf _ _ ⟨hrun, hended, _, _, rfl, ?_, ⟨_, rfl⟩, hW, hsame.mono (by decide) (by decide)⟩⟩
  show own_Q_ckL Z  h0 n0 _ s₁.heap _
  rw [e0]
  exact ⟨rfl, N0, rfl⟩
abbrev oF_cpB (m : MethodId) (pc : Nat) (a0 a1 a2 a3 a4 : Slot) (S : List Value) : JFrame := mkF m pc #[a0, a1, a2, a3, a4] S
theorem o133_0 : decode jdk_65_method_133_code 0 = .ok (.iload_n 1, 1) := by decide +kernel
theorem o133_1 : decode jdk_65_method_133_code 1 = .ok (.iload_n 2, 1) := by decide +kernel
theorem o133_2 : decode jdk_65_method_133_code 2 = .ok (.invokestatic 343, 3) := by decide +kernel
theorem o133_5 : decode jdk_65_method_133_code 5 = .ok (.iload_n 2, 1) := by decide +kernel
theorem o133_6 : decode jdk_65_method_133_code 6 = .ok (.iload_n 1, 1) := by decide +kernel
theorem o133_7 : decode jdk_65_method_133_code 7 = .ok (.isub, 1) := by decide +kernel
theorem o133_8 : decode jdk_65_method_133_code 8 = .ok (.istore_n 3, 1) := by decide +kernel
theorem o133_9 : decode jdk_65_method_133_code 9 = .ok (.iload_n 3, 1) := by decide +kernel
theorem o133_10 : decode jdk_65_method_133_code 10 = .ok (.newarray .byte, 2) := by decide +kernel
theorem o133_12 : decode jdk_65_method_133_code 12 = .ok (.astore 4, 2) := by decide +kernel
theorem o133_14 : decode jdk_65_method_133_code 14 = .ok (.aload_n 0, 1) := by decide +kernel
theorem o133_15 : decode jdk_65_method_133_code 15 = .ok (.iload_n 1, 1) := by decide +kernel
theorem o133_16 : decode jdk_65_method_133_code 16 = .ok (.aload 4, 2) := by decide +kernel
theorem o133_18 : decode jdk_65_method_133_code 18 = .ok (.iconst 0, 1) := by decide +kernel
theorem o133_19 : decode jdk_65_method_133_code 19 = .ok (.aload_n 0, 1) := by decide +kernel
theorem o133_20 : decode jdk_65_method_133_code 20 = .ok (.arraylength, 1) := by decide +kernel
theorem o133_21 : decode jdk_65_method_133_code 21 = .ok (.iload_n 1, 1) := by decide +kernel
theorem o133_22 : decode jdk_65_method_133_code 22 = .ok (.isub, 1) := by decide +kernel
theorem o133_23 : decode jdk_65_method_133_code 23 = .ok (.iload_n 3, 1) := by decide +kernel
theorem o133_24 : decode jdk_65_method_133_code 24 = .ok (.invokestatic 304, 3) := by decide +kernel
theorem own_pd_28II29I : parseMethodDescriptor "(II)I" = some ⟨[.int, .int], some .int⟩ := by decide +kernel
theorem o133_27 : decode jdk_65_method_133_code 27 = .ok (.invokestatic 150, 3) := by decide +kernel
theorem o133_30 : decode jdk_65_method_133_code 30 = .ok (.aload 4, 2) := by decide +kernel
theorem o133_32 : decode jdk_65_method_133_code 32 = .ok (.areturn, 1) := by decide +kernel
theorem own_ef_cpB (m : MethodId) (x0 : Addr) (x1 : Int32) (x2 : Int32) : entryFrame m #[(.ref x0), (.int x1), (.int x2)] 5 = mkF m 0 #[(oR x0), (oi x1), (oi x2), .unset, .unset] [] := by first | (simp [entryFrame, mkF, argsToLocals, Value.category]; done) | rfl
def own_Q_cpB (Z : State) (bv : Addr) (cz : Int32) (kb : ClassId) (u0 u1 u2 u3 u4 u5 : Int32) (h0 : Heap) (n0 : Nat) (v : Option Value) (h : Heap) (L : List Loc) : Prop := ∃ (nb : Addr) (kn : ClassId), v = some (.ref nb) ∧ Fr n0 L ∧ Keep h0 h [] ∧ h0.size ≤ nb ∧ Arv Z h nb kn .byte (6 : Int32) [(.int u0), (.int u1), (.int u2), (.int u3), (.int u4), (.int u5)] (.int 0) ∧ Sta Z h "java/lang/String" "COMPACT_STRINGS" "Z" (.int cz)
set_option maxRecDepth 65536 in
set_option maxHeartbeats 40000000 in
theorem own_rm_cpB (l : Launch) (Z : State) (a0 : Array Value) (hw : ∀ d ∈ tables_1, d.before a0 Z = true) (ws : List Jvm.Cond) (bv : Addr) (cz : Int32) (kb : ClassId) (u0 u1 u2 u3 u4 u5 : Int32) (h0 : Heap) (n0 : Nat) (Z0 : n0 ≤ h0.size) (Sc0 : Sta Z h0 "java/lang/String" "COMPACT_STRINGS" "Z" (.int cz)) (hcz : ¬ cz = (0 : Int32)) (Vv0 : Arv Z h0 bv kb .byte (16 : Int32) [(.int u0), (.int u1), (.int u2), (.int u3), (.int u4), (.int u5), (.int 0), (.int 0), (.int 0), (.int 0), (.int 0), (.int 0), (.int 0), (.int 0), (.int 0), (.int 0)] (.int 0)) :
    MetFree l (⟨"java/util/Arrays", "copyOfRangeByte", "([BII)[B"⟩ : MethodName) (head1 (Jvm.Cond.code (⟨"java/util/Arrays", "copyOfRangeByte", "([BII)[B"⟩ : MethodName) jdk_65_method_133_code 5 (some (.array .byte)) :: ws) ({ frames := 1, cells := 1, slots := 6, locals := 64 } : Room)) (fun a U => a = #[(.ref bv), (.int 0), (.int 6)] ∧ Z.Warmed39 U.vm ∧ U.heap = h0) (fun _ _ _ _ _ => True) (fun _ U o U' => ∃ v L, o = .returned v ∧ own_Q_cpB Z bv cz kb u0 u1 u2 u3 u4 u5 h0 n0 v U'.heap L ∧ FrameEnd U o U' L ({ frames := 1, cells := 1, slots := 6, locals := 64 } : Room).cells ({ frames := 1, cells := 1, slots := 6, locals := 64 } : Room).slots) := by
  refine MetFree.of_bodySF (plainFor_of_name own_pn_java_util_Arrays) hisR ?_
  intro p e s m args below meth c s₁ Bd hml0 hP hKq_
  obtain ⟨rfl, hZ, hh⟩ := hP
  have hx := Bd.exec
  have hby := Bd.bytes
  have hml : c.maxLocals = 5 := hml0
  have hown : s.vm.findClass "java/util/Arrays" = some m.cls := findClass_of_methodNamed Bd.named
  have hnm := (name_of_methodNamed Bd.named Bd.method).1
  have ow63 := hw _ (List.mem_of_getElem? (i := 63) rfl)
  have ow107 := hw _ (List.mem_of_getElem? (i := 107) rfl)
  have ow108 := hw _ (List.mem_of_getElem? (i := 108) rfl)
  have ow109 := hw _ (List.mem_of_getElem? (i := 109) rfl)
  have ow162 := hw _ (List.mem_of_getElem? (i := 162) rfl)
  have ow167 := hw _ (List.mem_of_getElem? (i := 167) rfl)
  have ow168 := hw _ (List.mem_of_getElem? (i := 168) rfl)
  have ow169 := hw _ (List.mem_of_getElem? (i := 169) rfl)
  have ow170 := hw _ (List.mem_of_getElem? (i := 170) rfl)
  have ow171 := hw _ (List.mem_of_getElem? (i := 171) rfl)
  have ow172 := hw _ (List.mem_of_getElem? (i := 172) rfl)
  have ow173 := hw _ (List.mem_of_getElem? (i := 173) rfl)
  have ow174 := hw _ (List.mem_of_getElem? (i := 174) rfl)
  have X0 : Stand p l e ({ frames := 1, cells := 1, slots := 6, locals := 64 } : Room) s m #[(.ref bv), (.int 0), (.int 6)] below meth c s₁ [] 0 0 := Stand.of_body Bd
  have e0 : s₁.heap = h0 := by rw [← hh, Bd.state]; rfl
  have N0 := Fr.nil n0
  have pre0 : ∀ t, Steps p.tables e below (s₁.setTop (mkF m 0 #[(oR bv), (oi 0), (oi 6), .unset, .unset] [])) t → Steps p.tables e below (s₁.setTop (entryFrame m #[(.ref bv), (.int 0), (.int 6)] 5)) t := fun t k => castTop (own_ef_cpB m bv (0 : Int32) (6 : Int32)) k
  refine own_go pre0 ?_
  refine own_abs ?_
  intro Pf hPf
  refine own_go (A := oW p e below s₁ (oF_cpB m 2 (oR bv) (oi 0) (oi 6) .unset .unset [(.int 6), (.int 0)])) (fun t k => by
    refine XS.iloadN X0.here hx rfl (hb hby o133_0) rfl ?_
    show oW p e below s₁ (oF_cpB m 1 (oR bv) (oi 0) (oi 6) .unset .unset [(.int 0)]) _
    refine XS.iloadN X0.here hx rfl (hb hby o133_1) rfl ?_
    exact k) ?_
  obtain ⟨_, _, ⟨T1, L1, k1, n1⟩, -, X1, ⟨Lc1, hQ1, l1, y1, z1⟩, st1⟩ := Jvm.LawKit.callS X0 hx (y := (⟨"java/util/Arrays", "checkLength", "(II)V"⟩ : MethodName)) hown (mvT hZ ow167) (mvT hZ ow168) (mvT hZ ow162) (mvT hZ ow169) (by decide) (backOf (W := 0) (own_rm_ckL l Z a0 hw []  h0 n0 Z0 ) hZ ow169 ow162 (by decide) (by decide)) (g := (oF_cpB m 2 (oR bv) (oi 0) (oi 6) .unset .unset [(.int 6), (.int 0)])) rfl (by rw [hml]; rfl) (argsL := [(.int 0), (.int 6)]) (rest := []) (lenOf own_pd_28II29V rfl) rfl (by show 2 * 0 + _ ≤ _; exact Nat.le_of_eq rfl) (hb hby o133_2) (fun _ _ => ⟨rfl, e0, (by decide : 0 + 0 ≤ _), (by decide : 0 + 0 ≤ _)⟩)
  dsimp only [Pt.U, Pt.locs, Pt.cells, Pt.slots] at X1 l1 y1 z1 st1 hQ1
  subst l1 y1 z1
  obtain ⟨rfl, N1q, eh1⟩ := hQ1
  have N1 := Fr.app N0 N1q
  refine own_go st1 ?_
  refine own_go (A := oW p e below T1 (oF_cpB m 10 (oR bv) (oi 0) (oi 6) (oi 6) .unset [(.int 6)])) (fun t k => by
    refine XS.iloadN X1.here hx rfl (hb hby o133_5) rfl ?_
    show oW p e below T1 (oF_cpB m 6 (oR bv) (oi 0) (oi 6) .unset .unset [(.int 6)]) _
    refine XS.iloadN X1.here hx rfl (hb hby o133_6) rfl ?_
    show oW p e below T1 (oF_cpB m 7 (oR bv) (oi 0) (oi 6) .unset .unset [(.int 0), (.int 6)]) _
    refine XS.isub X1.here hx rfl (hb hby o133_7) rfl ?_
    show oW p e below T1 (oF_cpB m 8 (oR bv) (oi 0) (oi 6) .unset .unset [(.int 6)]) _
    refine XS.istoreN X1.here hx rfl (hb hby o133_8) rfl (l' := #[(oR bv), (oi 0), (oi 6), (oi 6), .unset]) rfl ?_
    show oW p e below T1 (oF_cpB m 9 (oR bv) (oi 0) (oi 6) (oi 6) .unset []) _
    refine XS.iloadN X1.here hx rfl (hb hby o133_9) rfl ?_
    exact k) ?_
  obtain ⟨T2, h2, k2, X2, e2, E2, A2, st2⟩ := newP X1 hx hZ (aty := .byte) ow63 eh1 (g := (oF_cpB m 10 (oR bv) (oi 0) (oi 6) (oi 6) .unset [(.int 6)])) rfl (hb hby o133_10) rfl (by decide) (cap := 6) (by decide) (by decide) (by decide) (by decide)
  obtain ⟨b2, g2⟩ : ∃ z, z = h0.size := ⟨_, rfl⟩
  rw [← g2] at A2 st2
  refine own_go st2 ?_
  have ne_bv_b2 : bv ≠ b2 := Nat.ne_of_lt (Nat.lt_of_lt_of_le Vv0.lt (Nat.le_of_eq g2.symm))
  have g_b2 : n0 ≤ b2 := Nat.le_trans Z0 (Nat.le_of_eq g2.symm)
  have Z2 : n0 ≤ h2.size := Nat.le_trans Z0 E2.1
  have sz_b2 : h0.size ≤ b2 := Nat.le_trans (Keep.refl h0 []).1 (Nat.le_of_eq g2.symm)
  have K2 : Keep h0 h2 [] := (Keep.refl h0 []).ext E2
  have U2 : Arv Z h2 b2 k2 .byte (6 : Int32) [] (.int 0) := Arv.new A2 (by decide)
  have V2 : Arv Z h2 b2 k2 .byte (6 : Int32) [(.int 0), (.int 0), (.int 0), (.int 0), (.int 0), (.int 0)] (.int 0) := U2.pad (pad_rep [] (.int 0) 6)
  refine own_go (A := oW p e below T2 (oF_cpB m 24 (oR bv) (oi 0) (oi 6) (oi 6) (oR b2) [(.int 6), (.int 16), (.int 0), (.ref b2), (.int 0), (.ref bv)])) (fun t k => by
    refine XS.astore X2.here hx rfl (hb hby o133_12) rfl rfl (l' := #[(oR bv), (oi 0), (oi 6), (oi 6), (oR b2)]) rfl ?_
    show oW p e below T2 (oF_cpB m 14 (oR bv) (oi 0) (oi 6) (oi 6) (oR b2) []) _
    refine XS.aloadN X2.here hx rfl (hb hby o133_14) rfl rfl ?_
    show oW p e below T2 (oF_cpB m 15 (oR bv) (oi 0) (oi 6) (oi 6) (oR b2) [(.ref bv)]) _
    refine XS.iloadN X2.here hx rfl (hb hby o133_15) rfl ?_
    show oW p e below T2 (oF_cpB m 16 (oR bv) (oi 0) (oi 6) (oi 6) (oR b2) [(.int 0), (.ref bv)]) _
    refine XS.aload X2.here hx rfl (hb hby o133_16) rfl rfl ?_
    show oW p e below T2 (oF_cpB m 18 (oR bv) (oi 0) (oi 6) (oi 6) (oR b2) [(.ref b2), (.int 0), (.ref bv)]) _
    refine XS.iconst X2.here hx rfl (hb hby o133_18) ?_
    show oW p e below T2 (oF_cpB m 19 (oR bv) (oi 0) (oi 6) (oi 6) (oR b2) [(.int 0), (.ref b2), (.int 0), (.ref bv)]) _
    refine XS.aloadN X2.here hx rfl (hb hby o133_19) rfl rfl ?_
    show oW p e below T2 (oF_cpB m 20 (oR bv) (oi 0) (oi 6) (oi 6) (oR b2) [(.ref bv), (.int 0), (.ref b2), (.int 0), (.ref bv)]) _
    refine own_len2 X2 hx hZ e2 (Vv0.ext E2) (g := (oF_cpB m 20 (oR bv) (oi 0) (oi 6) (oi 6) (oR b2) [(.ref bv), (.int 0), (.ref b2), (.int 0), (.ref bv)])) rfl rfl (hb hby o133_20) _ ?_
    show oW p e below T2 (oF_cpB m 21 (oR bv) (oi 0) (oi 6) (oi 6) (oR b2) [(.int 16), (.int 0), (.ref b2), (.int 0), (.ref bv)]) _
    refine XS.iloadN X2.here hx rfl (hb hby o133_21) rfl ?_
    show oW p e below T2 (oF_cpB m 22 (oR bv) (oi 0) (oi 6) (oi 6) (oR b2) [(.int 0), (.int 16), (.int 0), (.ref b2), (.int 0), (.ref bv)]) _
    refine XS.isub X2.here hx rfl (hb hby o133_22) rfl ?_
    show oW p e below T2 (oF_cpB m 23 (oR bv) (oi 0) (oi 6) (oi 6) (oR b2) [(.int 16), (.int 0), (.ref b2), (.int 0), (.ref bv)]) _
    refine XS.iloadN X2.here hx rfl (hb hby o133_23) rfl ?_
    exact k) ?_
  obtain ⟨_, _, ⟨T3, L3, k3, n3⟩, -, X3, ⟨Lc3, hQ3, l3, y3, z3⟩, st3⟩ := Jvm.LawKit.callS X2 hx (y := (⟨"java/lang/Math", "min", "(II)I"⟩ : MethodName)) hown (mvT hZ ow170) (mvT hZ ow171) (mvT hZ ow172) (mvT hZ ow173) (by decide) (backOf (W := 4) (own_rm_min l Z a0 hw []  h2 n0 Z2 ) hZ ow173 ow172 (by decide) (by decide)) (g := (oF_cpB m 24 (oR bv) (oi 0) (oi 6) (oi 6) (oR b2) [(.int 6), (.int 16), (.int 0), (.ref b2), (.int 0), (.ref bv)])) rfl (by rw [hml]; rfl) (argsL := [(.int 16), (.int 6)]) (rest := [(.int 0), (.ref b2), (.int 0), (.ref bv)]) (lenOf own_pd_28II29I rfl) rfl (by show 2 * 0 + _ ≤ _; exact Nat.le_of_eq rfl) (hb hby o133_24) (fun _ _ => ⟨rfl, e2, (by decide : 1 + 0 ≤ _), (by decide : 6 + 0 ≤ _)⟩)
  dsimp only [Pt.U, Pt.locs, Pt.cells, Pt.slots] at X3 l3 y3 z3 st3 hQ3
  subst l3 y3 z3
  obtain ⟨rfl, N3q, eh3⟩ := hQ3
  have N3 := Fr.app N1 N3q
  refine own_go st3 ?_
  obtain ⟨T4, h4, L4, X4, e4, N4, Kc4, A4, st4⟩ := cpA X3 hx hZ hown ow174 ow109 ow107 ow108 eh3 (Vv0.ext E2) V2 (us := [(.int u0), (.int u1), (.int u2), (.int u3), (.int u4), (.int u5)]) (Or.inl ⟨rfl, rfl⟩) (by decide) (by decide) (by decide) (by decide) (by decide) rfl (by decide) N3 g_b2 (g := (oF_cpB m 27 (oR bv) (oi 0) (oi 6) (oi 6) (oR b2) [(.int 6), (.int 0), (.ref b2), (.int 0), (.ref bv)])) rfl (by rw [hml]; rfl) rfl (hb hby o133_27) (by decide) (W := 0) (by show 2 * 0 + _ ≤ _; exact Nat.le_of_eq rfl) (by decide)
  refine own_go st4 ?_
  have V4 : Arv Z h4 b2 k2 .byte (6 : Int32) [(.int u0), (.int u1), (.int u2), (.int u3), (.int u4), (.int u5)] (.int 0) := A4
  have f4_0 : Sta Z h4 "java/lang/String" "COMPACT_STRINGS" "Z" (.int cz) := own_stak (Sc0.ext E2) Kc4 V2
  have f4_1 : Arv Z h4 bv kb .byte (16 : Int32) [(.int u0), (.int u1), (.int u2), (.int u3), (.int u4), (.int u5), (.int 0), (.int 0), (.int 0), (.int 0), (.int 0), (.int 0), (.int 0), (.int 0), (.int 0), (.int 0)] (.int 0) := (Vv0.ext E2).keep Kc4 (ninS ne_bv_b2 nin0)
  have f4_2 : Arv Z h4 b2 k2 .byte (6 : Int32) [(.int u0), (.int u1), (.int u2), (.int u3), (.int u4), (.int u5)] (.int 0) := V4
  have Z4 : n0 ≤ h4.size := Nat.le_trans Z2 Kc4.1
  have K4 : Keep h0 h4 [] := K2.trans Kc4 (allS (Or.inr sz_b2) all0)
  refine own_go (A := oW p e below T4 (oF_cpB m 32 (oR bv) (oi 0) (oi 6) (oi 6) (oR b2) [(.ref b2)])) (fun t k => by
    refine XS.aload X4.here hx rfl (hb hby o133_30) rfl rfl ?_
    exact k) ?_
  obtain ⟨fs, hr, hrun, hended, hW, hsame⟩ := X4.leave (v := some (.ref b2)) (fun h => by rw [Bd.returns] at h; cases h)
  refine ⟨_, _, retOut X4 hx Bd.returns rfl (Or.inr (Or.inr (Or.inr (Or.inr ⟨rfl, rfl, rfl⟩)))) (hb hby o133_32) hr, hPf _ _ ⟨hrun, hended, _, _, rfl, ?_, ⟨_, rfl⟩, hW, hsame.mono (by decide) (by decide)⟩⟩
  show own_Q_cpB Z bv cz kb u0 u1 u2 u3 u4 u5 h0 n0 _ T4.heap _
  rw [e4]
  exact ⟨b2, k2, rfl, N4, K4, sz_b2, f4_2, f4_0⟩
abbrev oF_cpR (m : MethodId) (pc : Nat) (a0 a1 a2 : Slot) (S : List Value) : JFrame := mkF m pc #[a0, a1, a2] S
theorem o132_0 : decode jdk_65_method_132_code 0 = .ok (.iload_n 1, 1) := by decide +kernel
theorem o132_1 : decode jdk_65_method_132_code 1 = .ok (.ifCond .ne 9, 3) := by decide +kernel
theorem o132_4 : decode jdk_65_method_132_code 4 = .ok (.iload_n 2, 1) := by decide +kernel
theorem o132_5 : decode jdk_65_method_132_code 5 = .ok (.aload_n 0, 1) := by decide +kernel
theorem o132_6 : decode jdk_65_method_132_code 6 = .ok (.arraylength, 1) := by decide +kernel
theorem o132_7 : decode jdk_65_method_132_code 7 = .ok (.if_icmp .eq 10, 3) := by decide +kernel
theorem o132_10 : decode jdk_65_method_132_code 10 = .ok (.aload_n 0, 1) := by decide +kernel
theorem o132_11 : decode jdk_65_method_132_code 11 = .ok (.iload_n 1, 1) := by decide +kernel
theorem o132_12 : decode jdk_65_method_132_code 12 = .ok (.iload_n 2, 1) := by decide +kernel
theorem o132_13 : decode jdk_65_method_132_code 13 = .ok (.invokestatic 339, 3) := by decide +kernel
theorem own_pd_285bBII295bB : parseMethodDescriptor "([BII)[B" = some ⟨[(.array .byte), .int, .int], some (.array .byte)⟩ := by decide +kernel
theorem o132_16 : decode jdk_65_method_132_code 16 = .ok (.areturn, 1) := by decide +kernel
theorem own_ef_cpR (m : MethodId) (x0 : Addr) (x1 : Int32) (x2 : Int32) : entryFrame m #[(.ref x0), (.int x1), (.int x2)] 3 = mkF m 0 #[(oR x0), (oi x1), (oi x2)] [] := by first | (simp [entryFrame, mkF, argsToLocals, Value.category]; done) | rfl
def own_Q_cpR (Z : State) (bv : Addr) (cz : Int32) (kb : ClassId) (u0 u1 u2 u3 u4 u5 : Int32) (h0 : Heap) (n0 : Nat) (v : Option Value) (h : Heap) (L : List Loc) : Prop := ∃ (nb : Addr) (kn : ClassId), v = some (.ref nb) ∧ Fr n0 L ∧ Keep h0 h [] ∧ h0.size ≤ nb ∧ Arv Z h nb kn .byte (6 : Int32) [(.int u0), (.int u1), (.int u2), (.int u3), (.int u4), (.int u5)] (.int 0) ∧ Sta Z h "java/lang/String" "COMPACT_STRINGS" "Z" (.int cz)
set_option maxRecDepth 65536 in
set_option maxHeartbeats 40000000 in
theorem own_rm_cpR (l : Launch) (Z : State) (a0 : Array Value) (hw : ∀ d ∈ tables_1, d.before a0 Z = true) (ws : List Jvm.Cond) (bv : Addr) (cz : Int32) (kb : ClassId) (u0 u1 u2 u3 u4 u5 : Int32) (h0 : Heap) (n0 : Nat) (Z0 : n0 ≤ h0.size) (Sc0 : Sta Z h0 "java/lang/String" "COMPACT_STRINGS" "Z" (.int cz)) (hcz : ¬ cz = (0 : Int32)) (Vv0 : Arv Z h0 bv kb .byte (16 : Int32) [(.int u0), (.int u1), (.int u2), (.int u3), (.int u4), (.int u5), (.int 0), (.int 0), (.int 0), (.int 0), (.int 0), (.int 0), (.int 0), (.int 0), (.int 0), (.int 0)] (.int 0)) :
    MetFree l (⟨"java/util/Arrays", "copyOfRange", "([BII)[B"⟩ : MethodName) (head1 (Jvm.Cond.code (⟨"java/util/Arrays", "copyOfRange", "([BII)[B"⟩ : MethodName) jdk_65_method_132_code 3 (some (.array .byte)) :: ws) ({ frames := 2, cells := 1, slots := 6, locals := 80 } : Room)) (fun a U => a = #[(.ref bv), (.int 0), (.int 6)] ∧ Z.Warmed39 U.vm ∧ U.heap = h0) (fun _ _ _ _ _ => True) (fun _ U o U' => ∃ v L, o = .returned v ∧ own_Q_cpR Z bv cz kb u0 u1 u2 u3 u4 u5 h0 n0 v U'.heap L ∧ FrameEnd U o U' L ({ frames := 2, cells := 1, slots := 6, locals := 80 } : Room).cells ({ frames := 2, cells := 1, slots := 6, locals := 80 } : Room).slots) := by
  refine MetFree.of_bodySF (plainFor_of_name own_pn_java_util_Arrays) hisR ?_
  intro p e s m args below meth c s₁ Bd hml0 hP hKq_
  obtain ⟨rfl, hZ, hh⟩ := hP
  have hx := Bd.exec
  have hby := Bd.bytes
  have hml : c.maxLocals = 3 := hml0
  have hown : s.vm.findClass "java/util/Arrays" = some m.cls := findClass_of_methodNamed Bd.named
  have hnm := (name_of_methodNamed Bd.named Bd.method).1
  have ow162 := hw _ (List.mem_of_getElem? (i := 162) rfl)
  have ow164 := hw _ (List.mem_of_getElem? (i := 164) rfl)
  have ow165 := hw _ (List.mem_of_getElem? (i := 165) rfl)
  have ow166 := hw _ (List.mem_of_getElem? (i := 166) rfl)
  have X0 : Stand p l e ({ frames := 2, cells := 1, slots := 6, locals := 80 } : Room) s m #[(.ref bv), (.int 0), (.int 6)] below meth c s₁ [] 0 0 := Stand.of_body Bd
  have e0 : s₁.heap = h0 := by rw [← hh, Bd.state]; rfl
  have N0 := Fr.nil n0
  have pre0 : ∀ t, Steps p.tables e below (s₁.setTop (mkF m 0 #[(oR bv), (oi 0), (oi 6)] [])) t → Steps p.tables e below (s₁.setTop (entryFrame m #[(.ref bv), (.int 0), (.int 6)] 3)) t := fun t k => castTop (own_ef_cpR m bv (0 : Int32) (6 : Int32)) k
  refine own_go pre0 ?_
  refine own_abs ?_
  intro Pf hPf
  refine own_go (A := oW p e below s₁ (oF_cpR m 13 (oR bv) (oi 0) (oi 6) [(.int 6), (.int 0), (.ref bv)])) (fun t k => by
    refine XS.iloadN X0.here hx rfl (hb hby o132_0) rfl ?_
    show oW p e below s₁ (oF_cpR m 1 (oR bv) (oi 0) (oi 6) [(.int 0)]) _
    refine XS.ifNo X0.here hx rfl (hb hby o132_1) rfl ((if0 _ _).trans (teq (by decide : (0 : Int32) = (0 : Int32))).2) ?_
    show oW p e below s₁ (oF_cpR m 4 (oR bv) (oi 0) (oi 6) []) _
    refine XS.iloadN X0.here hx rfl (hb hby o132_4) rfl ?_
    show oW p e below s₁ (oF_cpR m 5 (oR bv) (oi 0) (oi 6) [(.int 6)]) _
    refine XS.aloadN X0.here hx rfl (hb hby o132_5) rfl rfl ?_
    show oW p e below s₁ (oF_cpR m 6 (oR bv) (oi 0) (oi 6) [(.ref bv), (.int 6)]) _
    refine own_len2 X0 hx hZ e0 Vv0 (g := (oF_cpR m 6 (oR bv) (oi 0) (oi 6) [(.ref bv), (.int 6)])) rfl rfl (hb hby o132_6) _ ?_
    show oW p e below s₁ (oF_cpR m 7 (oR bv) (oi 0) (oi 6) [(.int 16), (.int 6)]) _
    refine XS.icmpNo X0.here hx rfl (hb hby o132_7) rfl (feq (by decide : ¬ ((6 : Int32) = (16 : Int32)))).1 ?_
    show oW p e below s₁ (oF_cpR m 10 (oR bv) (oi 0) (oi 6) []) _
    refine XS.aloadN X0.here hx rfl (hb hby o132_10) rfl rfl ?_
    show oW p e below s₁ (oF_cpR m 11 (oR bv) (oi 0) (oi 6) [(.ref bv)]) _
    refine XS.iloadN X0.here hx rfl (hb hby o132_11) rfl ?_
    show oW p e below s₁ (oF_cpR m 12 (oR bv) (oi 0) (oi 6) [(.int 0), (.ref bv)]) _
    refine XS.iloadN X0.here hx rfl (hb hby o132_12) rfl ?_
    exact k) ?_
  obtain ⟨_, _, ⟨T1, L1, k1, n1⟩, -, X1, ⟨Lc1, hQ1, l1, y1, z1⟩, st1⟩ := Jvm.LawKit.callS X0 hx (y := (⟨"java/util/Arrays", "copyOfRangeByte", "([BII)[B"⟩ : MethodName)) hown (mvT hZ ow164) (mvT hZ ow165) (mvT hZ ow162) (mvT hZ ow166) (by decide) (backOf (W := 0) (own_rm_cpB l Z a0 hw [] bv cz kb u0 u1 u2 u3 u4 u5 h0 n0 Z0 Sc0 hcz Vv0) hZ ow166 ow162 (by decide) (by decide)) (g := (oF_cpR m 13 (oR bv) (oi 0) (oi 6) [(.int 6), (.int 0), (.ref bv)])) rfl (by rw [hml]; rfl) (argsL := [(.ref bv), (.int 0), (.int 6)]) (rest := []) (lenOf own_pd_285bBII295bB rfl) rfl (by show 2 * 0 + _ ≤ _; exact Nat.le_of_eq rfl) (hb hby o132_13) (fun _ _ => ⟨rfl, e0, (by decide : 0 + 1 ≤ _), (by decide : 0 + 6 ≤ _)⟩)
  dsimp only [Pt.U, Pt.locs, Pt.cells, Pt.slots] at X1 l1 y1 z1 st1 hQ1
  subst l1 y1 z1
  obtain ⟨nb, kn, rfl, N1q, K1q, s_nb, p1_0, p1_1⟩ := hQ1
  have N1 := Fr.app N0 N1q
  have g_nb : n0 ≤ nb := Nat.le_trans Z0 s_nb
  have sz_nb : h0.size ≤ nb := Nat.le_trans (Keep.refl h0 []).1 s_nb
  have ne_bv_nb : bv ≠ nb := Nat.ne_of_lt (Nat.lt_of_lt_of_le Vv0.lt s_nb)
  have f1_1 : Arv Z T1.heap bv kb .byte (16 : Int32) [(.int u0), (.int u1), (.int u2), (.int u3), (.int u4), (.int u5), (.int 0), (.int 0), (.int 0), (.int 0), (.int 0), (.int 0), (.int 0), (.int 0), (.int 0), (.int 0)] (.int 0) := Vv0.keep K1q nin0
  have Z1 : n0 ≤ T1.heap.size := Nat.le_trans Z0 K1q.1
  have K1 : Keep h0 T1.heap [] := (Keep.refl h0 []).trans K1q all0
  refine own_go st1 ?_
  obtain ⟨fs, hr, hrun, hended, hW, hsame⟩ := X1.leave (v := some (.ref nb)) (fun h => by rw [Bd.returns] at h; cases h)
  refine ⟨_, _, retOut X1 hx Bd.returns rfl (Or.inr (Or.inr (Or.inr (Or.inr ⟨rfl, rfl, rfl⟩)))) (hb hby o132_16) hr, hPf _ _ ⟨hrun, hended, _, _, rfl, ?_, ⟨_, rfl⟩, hW, hsame.mono (by decide) (by decide)⟩⟩
  show own_Q_cpR Z bv cz kb u0 u1 u2 u3 u4 u5 h0 n0 _ T1.heap _
  exact ⟨nb, kn, rfl, N1, K1, sz_nb, p1_0, p1_1⟩
abbrev oF_stA (m : MethodId) (pc : Nat) (a0 a1 a2 a3 a4 : Slot) (S : List Value) : JFrame := mkF m pc #[a0, a1, a2, a3, a4] S
theorem o150_0 : decode jdk_42_method_150_code 0 = .ok (.aload_n 0, 1) := by decide +kernel
theorem o150_1 : decode jdk_42_method_150_code 1 = .ok (.invokespecial 1, 3) := by decide +kernel
theorem o150_4 : decode jdk_42_method_150_code 4 = .ok (.aload_n 1, 1) := by decide +kernel
theorem o150_5 : decode jdk_42_method_150_code 5 = .ok (.invokevirtual 552, 3) := by decide +kernel
theorem own_pd_28295bB : parseMethodDescriptor "()[B" = some ⟨[], some (.array .byte)⟩ := by decide +kernel
theorem o150_8 : decode jdk_42_method_150_code 8 = .ok (.astore_n 3, 1) := by decide +kernel
theorem o150_9 : decode jdk_42_method_150_code 9 = .ok (.aload_n 1, 1) := by decide +kernel
theorem o150_10 : decode jdk_42_method_150_code 10 = .ok (.invokevirtual 549, 3) := by decide +kernel
theorem o150_13 : decode jdk_42_method_150_code 13 = .ok (.istore 4, 2) := by decide +kernel
theorem o150_15 : decode jdk_42_method_150_code 15 = .ok (.aload_n 1, 1) := by decide +kernel
theorem o150_16 : decode jdk_42_method_150_code 16 = .ok (.invokevirtual 1047, 3) := by decide +kernel
theorem o150_19 : decode jdk_42_method_150_code 19 = .ok (.ifCond .eq 22, 3) := by decide +kernel
theorem o150_22 : decode jdk_42_method_150_code 22 = .ok (.aload_n 0, 1) := by decide +kernel
theorem o150_23 : decode jdk_42_method_150_code 23 = .ok (.iconst 0, 1) := by decide +kernel
theorem o150_24 : decode jdk_42_method_150_code 24 = .ok (.putfield 15, 3) := by decide +kernel
theorem o150_27 : decode jdk_42_method_150_code 27 = .ok (.aload_n 0, 1) := by decide +kernel
theorem o150_28 : decode jdk_42_method_150_code 28 = .ok (.aload_n 3, 1) := by decide +kernel
theorem o150_29 : decode jdk_42_method_150_code 29 = .ok (.iconst 0, 1) := by decide +kernel
theorem o150_30 : decode jdk_42_method_150_code 30 = .ok (.iload 4, 2) := by decide +kernel
theorem o150_32 : decode jdk_42_method_150_code 32 = .ok (.invokestatic 54, 3) := by decide +kernel
theorem o150_35 : decode jdk_42_method_150_code 35 = .ok (.putfield 9, 3) := by decide +kernel
theorem o150_38 : decode jdk_42_method_150_code 38 = .ok (.goto 59, 3) := by decide +kernel
theorem o150_97 : decode jdk_42_method_150_code 97 = .ok (.return_, 1) := by decide +kernel
theorem own_ef_stA (m : MethodId) (x0 : Addr) (x1 : Addr) : entryFrame m #[(.ref x0), (.ref x1), .null] 5 = mkF m 0 #[(oR x0), (oR x1), (.val .null), .unset, .unset] [] := by first | (simp [entryFrame, mkF, argsToLocals, Value.category]; done) | rfl
def own_Q_stA (Z : State) (so : Addr) (sb : Addr) (cz : Int32) (bv : Addr) (kb : ClassId) (u0 u1 u2 u3 u4 u5 : Int32) (h0 : Heap) (n0 : Nat) (v : Option Value) (h : Heap) (L : List Loc) : Prop := ∃ (nb : Addr) (kn : ClassId), v = none ∧ Fr n0 L ∧ Keep h0 h [so] ∧ h0.size ≤ nb ∧ Fld Z h so "java/lang/String" "coder" "B" (.int 0) ∧ Fld Z h so "java/lang/String" "value" "[B" (.ref nb) ∧ Arv Z h nb kn .byte (6 : Int32) [(.int u0), (.int u1), (.int u2), (.int u3), (.int u4), (.int u5)] (.int 0) ∧ Sta Z h "java/lang/String" "COMPACT_STRINGS" "Z" (.int cz)
set_option maxRecDepth 65536 in
set_option maxHeartbeats 40000000 in
theorem own_rm_stA (l : Launch) (Z : State) (a0 : Array Value) (hw : ∀ d ∈ tables_1, d.before a0 Z = true) (ws : List Jvm.Cond) (so : Addr) (sb : Addr) (cz : Int32) (bv : Addr) (kb : ClassId) (u0 u1 u2 u3 u4 u5 : Int32) (h0 : Heap) (n0 : Nat) (Z0 : n0 ≤ h0.size) (hnd : ([so, sb, bv] : List Addr).Nodup) (Eo0 : Exa Z h0 so "java/lang/String") (Foc : Fld Z h0 so "java/lang/String" "coder" "B" (.int 0)) (Fov : Fld Z h0 so "java/lang/String" "value" "[B" .null) (g_so : n0 ≤ so) (Sc0 : Sta Z h0 "java/lang/String" "COMPACT_STRINGS" "Z" (.int cz)) (hcz : ¬ cz = (0 : Int32)) (Eb0 : Exa Z h0 sb "java/lang/StringBuilder") (Fbc : Fld Z h0 sb "java/lang/AbstractStringBuilder" "coder" "B" (.int 0)) (Fbv : Fld Z h0 sb "java/lang/AbstractStringBuilder" "value" "[B" (.ref bv)) (Fbn : Fld Z h0 sb "java/lang/AbstractStringBuilder" "count" "I" (.int 6)) (Vv0 : Arv Z h0 bv kb .byte (16 : Int32) [(.int u0), (.int u1), (.int u2), (.int u3), (.int u4), (.int u5), (.int 0), (.int 0), (.int 0), (.int 0), (.int 0), (.int 0), (.int 0), (.int 0), (.int 0), (.int 0)] (.int 0)) :
    MetFree l (⟨"java/lang/String", "<init>", "(Ljava/lang/AbstractStringBuilder;Ljava/lang/Void;)V"⟩ : MethodName) (head1 (Jvm.Cond.code (⟨"java/lang/String", "<init>", "(Ljava/lang/AbstractStringBuilder;Ljava/lang/Void;)V"⟩ : MethodName) jdk_42_method_150_code 5 none :: ws) ({ frames := 3, cells := 1, slots := 6, locals := 95 } : Room)) (fun a U => a = #[(.ref so), (.ref sb), .null] ∧ Z.Warmed39 U.vm ∧ U.heap = h0) (fun _ _ _ _ _ => True) (fun _ U o U' => ∃ v L, o = .returned v ∧ own_Q_stA Z so sb cz bv kb u0 u1 u2 u3 u4 u5 h0 n0 v U'.heap L ∧ FrameEnd U o U' L ({ frames := 3, cells := 1, slots := 6, locals := 95 } : Room).cells ({ frames := 3, cells := 1, slots := 6, locals := 95 } : Room).slots) := by
  refine MetFree.of_bodySF (plainFor_of_name own_pn_java_lang_String) hisR ?_
  intro p e s m args below meth c s₁ Bd hml0 hP hKq_
  obtain ⟨rfl, hZ, hh⟩ := hP
  have hx := Bd.exec
  have hby := Bd.bytes
  have hml : c.maxLocals = 5 := hml0
  have hown : s.vm.findClass "java/lang/String" = some m.cls := findClass_of_methodNamed Bd.named
  have hnm := (name_of_methodNamed Bd.named Bd.method).1
  have ow15 := hw _ (List.mem_of_getElem? (i := 15) rfl)
  have ow16 := hw _ (List.mem_of_getElem? (i := 16) rfl)
  have ow23 := hw _ (List.mem_of_getElem? (i := 23) rfl)
  have ow24 := hw _ (List.mem_of_getElem? (i := 24) rfl)
  have ow49 := hw _ (List.mem_of_getElem? (i := 49) rfl)
  have ow57 := hw _ (List.mem_of_getElem? (i := 57) rfl)
  have ow60 := hw _ (List.mem_of_getElem? (i := 60) rfl)
  have ow61 := hw _ (List.mem_of_getElem? (i := 61) rfl)
  have ow69 := hw _ (List.mem_of_getElem? (i := 69) rfl)
  have ow88 := hw _ (List.mem_of_getElem? (i := 88) rfl)
  have ow124 := hw _ (List.mem_of_getElem? (i := 124) rfl)
  have ow125 := hw _ (List.mem_of_getElem? (i := 125) rfl)
  have ow126 := hw _ (List.mem_of_getElem? (i := 126) rfl)
  have ow127 := hw _ (List.mem_of_getElem? (i := 127) rfl)
  have ow145 := hw _ (List.mem_of_getElem? (i := 145) rfl)
  have ow146 := hw _ (List.mem_of_getElem? (i := 146) rfl)
  have ow147 := hw _ (List.mem_of_getElem? (i := 147) rfl)
  have ow148 := hw _ (List.mem_of_getElem? (i := 148) rfl)
  have ow149 := hw _ (List.mem_of_getElem? (i := 149) rfl)
  have ow150 := hw _ (List.mem_of_getElem? (i := 150) rfl)
  have ow151 := hw _ (List.mem_of_getElem? (i := 151) rfl)
  have ow152 := hw _ (List.mem_of_getElem? (i := 152) rfl)
  have ow154 := hw _ (List.mem_of_getElem? (i := 154) rfl)
  have ow155 := hw _ (List.mem_of_getElem? (i := 155) rfl)
  have ow156 := hw _ (List.mem_of_getElem? (i := 156) rfl)
  have ow159 := hw _ (List.mem_of_getElem? (i := 159) rfl)
  have ow160 := hw _ (List.mem_of_getElem? (i := 160) rfl)
  have ow161 := hw _ (List.mem_of_getElem? (i := 161) rfl)
  have ow162 := hw _ (List.mem_of_getElem? (i := 162) rfl)
  have ow163 := hw _ (List.mem_of_getElem? (i := 163) rfl)
  have X0 : Stand p l e ({ frames := 3, cells := 1, slots := 6, locals := 95 } : Room) s m #[(.ref so), (.ref sb), .null] below meth c s₁ [] 0 0 := Stand.of_body Bd
  have e0 : s₁.heap = h0 := by rw [← hh, Bd.state]; rfl
  have N0 := Fr.nil n0
  have pre0 : ∀ t, Steps p.tables e below (s₁.setTop (mkF m 0 #[(oR so), (oR sb), (.val .null), .unset, .unset] [])) t → Steps p.tables e below (s₁.setTop (entryFrame m #[(.ref so), (.ref sb), .null] 5)) t := fun t k => castTop (own_ef_stA m so sb) k
  refine own_go pre0 ?_
  refine own_abs ?_
  intro Pf hPf
  have nn_bv : bv ∉ ([so] : List Addr) := (ninS (own_nd hnd (i := 2) (j := 0) rfl rfl (by decide)) nin0)
  have nn_sb : sb ∉ ([so] : List Addr) := (ninS (own_nd hnd (i := 1) (j := 0) rfl rfl (by decide)) nin0)
  refine own_go (A := oW p e below s₁ (oF_stA m 1 (oR so) (oR sb) (.val .null) .unset .unset [(.ref so)])) (fun t k => by
    refine XS.aloadN X0.here hx rfl (hb hby o150_0) rfl rfl ?_
    exact k) ?_
  obtain ⟨T1, X1, e1, st1⟩ := initO X0 hx hZ hown ow145 ow60 ow61 e0 (g := (oF_stA m 1 (oR so) (oR sb) (.val .null) .unset .unset [(.ref so)])) rfl (by rw [hml]; rfl) rfl (hb hby o150_1) (by decide) (W := 0) (by show 2 * 0 + _ ≤ _; exact Nat.le_of_eq rfl) (by decide)
  refine own_go st1 ?_
  refine own_go (A := oW p e below T1 (oF_stA m 5 (oR so) (oR sb) (.val .null) .unset .unset [(.ref sb)])) (fun t k => by
    refine XS.aloadN X1.here hx rfl (hb hby o150_4) rfl rfl ?_
    exact k) ?_
  obtain ⟨cq2, kq2, q2a, q2b, q2c⟩ := isOf hZ e1 Eb0
  obtain ⟨_, _, ⟨T2, L2, k2, n2⟩, -, X2, ⟨Lc2, hQ2, l2, y2, z2⟩, st2⟩ := X1.virtualBack hx (y := (⟨"java/lang/AbstractStringBuilder", "getValue", "()[B"⟩ : MethodName)) (z := (⟨"java/lang/AbstractStringBuilder", "getValue", "()[B"⟩ : MethodName)) hown (mvT hZ ow146) (mvT hZ ow147) (notFace_of_selects (args := #[]) (mvT hZ ow149)) (mvT hZ ow149) (mvT hZ ow148) (by decide) (backOf (W := 0) (own_rm_getV l Z a0 hw [] sb bv h0 n0 Z0 Eb0 Fbc Fbv) hZ ow150 ow57 (by decide) (by decide)) q2a q2c (g := (oF_stA m 5 (oR so) (oR sb) (.val .null) .unset .unset [(.ref sb)])) rfl (by rw [hml]; rfl) (Steps.refl _) (argsL := []) (rest := []) (lenOf own_pd_28295bB rfl) rfl (by show 2 * 0 + _ ≤ _; exact Nat.le_of_eq rfl) (hb hby o150_5) (fun _ _ => ⟨rfl, e1, (by decide : 0 + 0 ≤ _), (by decide : 0 + 0 ≤ _)⟩)
  dsimp only [Pt.U, Pt.locs, Pt.cells, Pt.slots] at X2 l2 y2 z2 st2 hQ2
  subst l2 y2 z2
  obtain ⟨rfl, N2q, eh2⟩ := hQ2
  have N2 := Fr.app N0 N2q
  refine own_go (fun _ k => st2.trans k) ?_
  refine own_go (A := oW p e below T2 (oF_stA m 10 (oR so) (oR sb) (.val .null) (oR bv) .unset [(.ref sb)])) (fun t k => by
    refine XS.astoreN X2.here hx rfl (hb hby o150_8) rfl rfl (l' := #[(oR so), (oR sb), (.val .null), (oR bv), .unset]) rfl ?_
    show oW p e below T2 (oF_stA m 9 (oR so) (oR sb) (.val .null) (oR bv) .unset []) _
    refine XS.aloadN X2.here hx rfl (hb hby o150_9) rfl rfl ?_
    exact k) ?_
  obtain ⟨cq3, kq3, q3a, q3b, q3c⟩ := isOf hZ eh2 Eb0
  obtain ⟨_, _, ⟨T3, L3, k3, n3⟩, -, X3, ⟨Lc3, hQ3, l3, y3, z3⟩, st3⟩ := X2.virtualBack hx (y := (⟨"java/lang/AbstractStringBuilder", "length", "()I"⟩ : MethodName)) (z := (⟨"java/lang/StringBuilder", "length", "()I"⟩ : MethodName)) hown (mvT hZ ow151) (mvT hZ ow152) (own_nf (args := #[]) (mvT hZ ow88) rfl) (mvT hZ ow154) (mvT hZ ow155) (by decide) (backOf (W := 0) (own_rm_lnB l Z a0 hw [] sb h0 n0 Z0 Eb0 Fbn) hZ ow156 ow49 (by decide) (by decide)) q3a q3c (g := (oF_stA m 10 (oR so) (oR sb) (.val .null) (oR bv) .unset [(.ref sb)])) rfl (by rw [hml]; rfl) (Steps.refl _) (argsL := []) (rest := []) (lenOf own_pd_2829I rfl) rfl (by show 2 * 0 + _ ≤ _; exact Nat.le_of_eq rfl) (hb hby o150_10) (fun _ _ => ⟨rfl, eh2, (by decide : 0 + 0 ≤ _), (by decide : 0 + 0 ≤ _)⟩)
  dsimp only [Pt.U, Pt.locs, Pt.cells, Pt.slots] at X3 l3 y3 z3 st3 hQ3
  subst l3 y3 z3
  obtain ⟨rfl, N3q, eh3⟩ := hQ3
  have N3 := Fr.app N2 N3q
  refine own_go (fun _ k => st3.trans k) ?_
  refine own_go (A := oW p e below T3 (oF_stA m 16 (oR so) (oR sb) (.val .null) (oR bv) (oi 6) [(.ref sb)])) (fun t k => by
    refine XS.istore X3.here hx rfl (hb hby o150_13) rfl (l' := #[(oR so), (oR sb), (.val .null), (oR bv), (oi 6)]) rfl ?_
    show oW p e below T3 (oF_stA m 15 (oR so) (oR sb) (.val .null) (oR bv) (oi 6) []) _
    refine XS.aloadN X3.here hx rfl (hb hby o150_15) rfl rfl ?_
    exact k) ?_
  obtain ⟨cq4, kq4, q4a, q4b, q4c⟩ := isOf hZ eh3 Eb0
  obtain ⟨_, _, ⟨T4, L4, k4, n4⟩, -, X4, ⟨Lc4, hQ4, l4, y4, z4⟩, st4⟩ := X3.virtualBack hx (y := (⟨"java/lang/AbstractStringBuilder", "isLatin1", "()Z"⟩ : MethodName)) (z := (⟨"java/lang/AbstractStringBuilder", "isLatin1", "()Z"⟩ : MethodName)) hown (mvT hZ ow159) (mvT hZ ow124) (notFace_of_selects (args := #[]) (mvT hZ ow126)) (mvT hZ ow126) (mvT hZ ow125) (by decide) (backOf (W := 0) (own_rm_isLB l Z a0 hw [] sb cz h0 n0 Z0 Sc0 hcz Eb0 Fbc) hZ ow127 ow57 (by decide) (by decide)) q4a q4c (g := (oF_stA m 16 (oR so) (oR sb) (.val .null) (oR bv) (oi 6) [(.ref sb)])) rfl (by rw [hml]; rfl) (Steps.refl _) (argsL := []) (rest := []) (lenOf own_pd_2829Z rfl) rfl (by show 2 * 0 + _ ≤ _; exact Nat.le_of_eq rfl) (hb hby o150_16) (fun _ _ => ⟨rfl, eh3, (by decide : 0 + 0 ≤ _), (by decide : 0 + 0 ≤ _)⟩)
  dsimp only [Pt.U, Pt.locs, Pt.cells, Pt.slots] at X4 l4 y4 z4 st4 hQ4
  subst l4 y4 z4
  obtain ⟨rfl, N4q, eh4⟩ := hQ4
  have N4 := Fr.app N3 N4q
  refine own_go (fun _ k => st4.trans k) ?_
  refine own_go (A := oW p e below T4 (oF_stA m 24 (oR so) (oR sb) (.val .null) (oR bv) (oi 6) [(.int 0), (.ref so)])) (fun t k => by
    refine XS.ifNo X4.here hx rfl (hb hby o150_19) rfl ((if0 _ _).trans (feq (by decide : ¬ ((1 : Int32) = (0 : Int32)))).1) ?_
    show oW p e below T4 (oF_stA m 22 (oR so) (oR sb) (.val .null) (oR bv) (oi 6) []) _
    refine XS.aloadN X4.here hx rfl (hb hby o150_22) rfl rfl ?_
    show oW p e below T4 (oF_stA m 23 (oR so) (oR sb) (.val .null) (oR bv) (oi 6) [(.ref so)]) _
    refine XS.iconst X4.here hx rfl (hb hby o150_23) ?_
    exact k) ?_
  obtain ⟨T5, h5, X5, e5, W5, st5⟩ := putFN X4 hx hZ hown ow23 Via.refl eh4 Foc Eo0 (Or.inr ⟨ow24, rfl, hnm⟩) ow69 (ty := .byte) (v' := .int (nar .byte (0 : Int32))) (by decide) rfl (fits_nar_byte _) (g := (oF_stA m 24 (oR so) (oR sb) (.val .null) (oR bv) (oi 6) [(.int 0), (.ref so)])) rfl rfl (hb hby o150_24)
  refine own_go st5 ?_
  have f5_1 : Fld Z h5 so "java/lang/String" "coder" "B" (.int 0) := Foc.same W5
  have f5_2 : Fld Z h5 so "java/lang/String" "value" "[B" .null := Fov.other W5 (Or.inr (slot_ne (Or.inr ow16) (Or.inr ow24) (by decide) (t := (.array .byte)) (t' := .byte) (by decide) (by decide)))
  have f5_3 : Sta Z h5 "java/lang/String" "COMPACT_STRINGS" "Z" (.int cz) := Sc0.wr W5
  have N5 := Fr.snoc X5 N4 g_so
  have Z5 : n0 ≤ h5.size := Nat.le_trans Z0 (Keep.of_wr W5).1
  have K5 : Keep h0 h5 [so] := (Keep.refl h0 [so]).wr W5 (Or.inl (List.mem_of_getElem? (i := 0) rfl))
  refine own_go (A := oW p e below T5 (oF_stA m 32 (oR so) (oR sb) (.val .null) (oR bv) (oi 6) [(.int 6), (.int 0), (.ref bv), (.ref so)])) (fun t k => by
    refine XS.aloadN X5.here hx rfl (hb hby o150_27) rfl rfl ?_
    show oW p e below T5 (oF_stA m 28 (oR so) (oR sb) (.val .null) (oR bv) (oi 6) [(.ref so)]) _
    refine XS.aloadN X5.here hx rfl (hb hby o150_28) rfl rfl ?_
    show oW p e below T5 (oF_stA m 29 (oR so) (oR sb) (.val .null) (oR bv) (oi 6) [(.ref bv), (.ref so)]) _
    refine XS.iconst X5.here hx rfl (hb hby o150_29) ?_
    show oW p e below T5 (oF_stA m 30 (oR so) (oR sb) (.val .null) (oR bv) (oi 6) [(.int 0), (.ref bv), (.ref so)]) _
    refine XS.iload X5.here hx rfl (hb hby o150_30) rfl ?_
    exact k) ?_
  obtain ⟨_, _, ⟨T6, L6, k6, n6⟩, -, X6, ⟨Lc6, hQ6, l6, y6, z6⟩, st6⟩ := Jvm.LawKit.callS X5 hx (y := (⟨"java/util/Arrays", "copyOfRange", "([BII)[B"⟩ : MethodName)) hown (mvT hZ ow160) (mvT hZ ow161) (mvT hZ ow162) (mvT hZ ow163) (by decide) (backOf (W := 1) (own_rm_cpR l Z a0 hw [] bv cz kb u0 u1 u2 u3 u4 u5 h5 n0 Z5 f5_3 hcz (Vv0.keep K5 nn_bv)) hZ ow163 ow162 (by decide) (by decide)) (g := (oF_stA m 32 (oR so) (oR sb) (.val .null) (oR bv) (oi 6) [(.int 6), (.int 0), (.ref bv), (.ref so)])) rfl (by rw [hml]; rfl) (argsL := [(.ref bv), (.int 0), (.int 6)]) (rest := [(.ref so)]) (lenOf own_pd_285bBII295bB rfl) rfl (by show 2 * 0 + _ ≤ _; exact Nat.le_of_eq rfl) (hb hby o150_32) (fun _ _ => ⟨rfl, e5, (by decide : 0 + 1 ≤ _), (by decide : 0 + 6 ≤ _)⟩)
  dsimp only [Pt.U, Pt.locs, Pt.cells, Pt.slots] at X6 l6 y6 z6 st6 hQ6
  subst l6 y6 z6
  obtain ⟨nb, kn, rfl, N6q, K6q, s_nb, p6_0, p6_1⟩ := hQ6
  have N6 := Fr.app N5 N6q
  have g_nb : n0 ≤ nb := Nat.le_trans Z5 s_nb
  have sz_nb : h0.size ≤ nb := Nat.le_trans K5.1 s_nb
  have ne_so_nb : so ≠ nb := Nat.ne_of_lt (Nat.lt_of_lt_of_le (Eo0.keep K5).lt s_nb)
  have ne_sb_nb : sb ≠ nb := Nat.ne_of_lt (Nat.lt_of_lt_of_le (Eb0.keep K5).lt s_nb)
  have ne_bv_nb : bv ≠ nb := Nat.ne_of_lt (Nat.lt_of_lt_of_le (Vv0.keep K5 nn_bv).lt s_nb)
  have f6_1 : Fld Z T6.heap so "java/lang/String" "coder" "B" (.int 0) := f5_1.keep K6q nin0
  have f6_2 : Fld Z T6.heap so "java/lang/String" "value" "[B" .null := f5_2.keep K6q nin0
  have Z6 : n0 ≤ T6.heap.size := Nat.le_trans Z5 K6q.1
  have K6 : Keep h0 T6.heap [so] := K5.trans K6q all0
  refine own_go st6 ?_
  obtain ⟨T7, h7, X7, e7, W7, st7⟩ := putF X6 hx hZ hown (host := "") (Or.inl ow15) Via.refl rfl f6_2 (Eo0.keep K6) (Or.inr ⟨ow16, rfl, hnm⟩) ow69 (ty := (.array .byte)) (by decide) rfl rfl (g := (oF_stA m 35 (oR so) (oR sb) (.val .null) (oR bv) (oi 6) [(.ref nb), (.ref so)])) rfl rfl (hb hby o150_35)
  refine own_go st7 ?_
  have f7_1 : Fld Z h7 so "java/lang/String" "coder" "B" (.int 0) := f6_1.other W7 (Or.inr (slot_ne (Or.inr ow24) (Or.inr ow16) (by decide) (t := .byte) (t' := (.array .byte)) (by decide) (by decide)))
  have f7_2 : Fld Z h7 so "java/lang/String" "value" "[B" (.ref nb) := f6_2.same W7
  have f7_8 : Arv Z h7 nb kn .byte (6 : Int32) [(.int u0), (.int u1), (.int u2), (.int u3), (.int u4), (.int u5)] (.int 0) := p6_0.other W7 ((Ne.symm ne_so_nb))
  have f7_9 : Sta Z h7 "java/lang/String" "COMPACT_STRINGS" "Z" (.int cz) := p6_1.wr W7
  have N7 := Fr.snoc X7 N6 g_so
  have Z7 : n0 ≤ h7.size := Nat.le_trans Z6 (Keep.of_wr W7).1
  have K7 : Keep h0 h7 [so] := K6.wr W7 (Or.inl (List.mem_of_getElem? (i := 0) rfl))
  refine own_go (A := oW p e below T7 (oF_stA m 97 (oR so) (oR sb) (.val .null) (oR bv) (oi 6) [])) (fun t k => by
    refine XS.goto X7.here hx rfl (pc0 := 38) (pc' := 97) rfl (hb hby o150_38) (by decide) (by decide) ?_
    exact k) ?_
  obtain ⟨fs, hr, hrun, hended, hW, hsame⟩ := X7.leave (v := none) (fun _ => rfl)
  refine ⟨_, _, X7.returnOut hx Bd.returns (hb hby o150_97) hr, hPf _ _ ⟨hrun, hended, _, _, rfl, ?_, ⟨_, rfl⟩, hW, hsame.mono (by decide) (by decide)⟩⟩
  show own_Q_stA Z so sb cz bv kb u0 u1 u2 u3 u4 u5 h0 n0 _ T7.heap _
  rw [e7]
  exact ⟨nb, kn, rfl, N7, K7, sz_nb, f7_1, f7_2, f7_8, f7_9⟩
abbrev oF_stB (m : MethodId) (pc : Nat) (a0 a1 : Slot) (S : List Value) : JFrame := mkF m pc #[a0, a1] S
theorem o253_0 : decode jdk_42_method_53_code 0 = .ok (.aload_n 0, 1) := by decide +kernel
theorem o253_1 : decode jdk_42_method_53_code 1 = .ok (.aload_n 1, 1) := by decide +kernel
theorem o253_2 : decode jdk_42_method_53_code 2 = .ok (.aconst_null, 1) := by decide +kernel
theorem o253_3 : decode jdk_42_method_53_code 3 = .ok (.invokespecial 489, 3) := by decide +kernel
theorem own_pd_28Ljava2flang2fAbstractStringBuilder3bLjava2flang2fVoid3b29V : parseMethodDescriptor "(Ljava/lang/AbstractStringBuilder;Ljava/lang/Void;)V" = some ⟨[(.object "java/lang/AbstractStringBuilder"), (.object "java/lang/Void")], none⟩ := by decide +kernel
theorem o253_6 : decode jdk_42_method_53_code 6 = .ok (.return_, 1) := by decide +kernel
theorem own_ef_stB (m : MethodId) (x0 : Addr) (x1 : Addr) : entryFrame m #[(.ref x0), (.ref x1)] 2 = mkF m 0 #[(oR x0), (oR x1)] [] := by first | (simp [entryFrame, mkF, argsToLocals, Value.category]; done) | rfl
def own_Q_stB (Z : State) (so : Addr) (sb : Addr) (cz : Int32) (bv : Addr) (kb : ClassId) (u0 u1 u2 u3 u4 u5 : Int32) (h0 : Heap) (n0 : Nat) (v : Option Value) (h : Heap) (L : List Loc) : Prop := ∃ (nb : Addr) (kn : ClassId), v = none ∧ Fr n0 L ∧ Keep h0 h [so] ∧ h0.size ≤ nb ∧ Fld Z h so "java/lang/String" "coder" "B" (.int 0) ∧ Fld Z h so "java/lang/String" "value" "[B" (.ref nb) ∧ Arv Z h nb kn .byte (6 : Int32) [(.int u0), (.int u1), (.int u2), (.int u3), (.int u4), (.int u5)] (.int 0) ∧ Sta Z h "java/lang/String" "COMPACT_STRINGS" "Z" (.int cz)
set_option maxRecDepth 65536 in
set_option maxHeartbeats 40000000 in
theorem own_rm_stB (l : Launch) (Z : State) (a0 : Array Value) (hw : ∀ d ∈ tables_1, d.before a0 Z = true) (ws : List Jvm.Cond) (so : Addr) (sb : Addr) (cz : Int32) (bv : Addr) (kb : ClassId) (u0 u1 u2 u3 u4 u5 : Int32) (h0 : Heap) (n0 : Nat) (Z0 : n0 ≤ h0.size) (hnd : ([so, sb, bv] : List Addr).Nodup) (Eo0 : Exa Z h0 so "java/lang/String") (Foc : Fld Z h0 so "java/lang/String" "coder" "B" (.int 0)) (Fov : Fld Z h0 so "java/lang/String" "value" "[B" .null) (g_so : n0 ≤ so) (Sc0 : Sta Z h0 "java/lang/String" "COMPACT_STRINGS" "Z" (.int cz)) (hcz : ¬ cz = (0 : Int32)) (Eb0 : Exa Z h0 sb "java/lang/StringBuilder") (Fbc : Fld Z h0 sb "java/lang/AbstractStringBuilder" "coder" "B" (.int 0)) (Fbv : Fld Z h0 sb "java/lang/AbstractStringBuilder" "value" "[B" (.ref bv)) (Fbn : Fld Z h0 sb "java/lang/AbstractStringBuilder" "count" "I" (.int 6)) (Vv0 : Arv Z h0 bv kb .byte (16 : Int32) [(.int u0), (.int u1), (.int u2), (.int u3), (.int u4), (.int u5), (.int 0), (.int 0), (.int 0), (.int 0), (.int 0), (.int 0), (.int 0), (.int 0), (.int 0), (.int 0)] (.int 0)) :
    MetFree l (⟨"java/lang/String", "<init>", "(Ljava/lang/StringBuilder;)V"⟩ : MethodName) (head1 (Jvm.Cond.code (⟨"java/lang/String", "<init>", "(Ljava/lang/StringBuilder;)V"⟩ : MethodName) jdk_42_method_53_code 2 none :: ws) ({ frames := 4, cells := 1, slots := 6, locals := 111 } : Room)) (fun a U => a = #[(.ref so), (.ref sb)] ∧ Z.Warmed39 U.vm ∧ U.heap = h0) (fun _ _ _ _ _ => True) (fun _ U o U' => ∃ v L, o = .returned v ∧ own_Q_stB Z so sb cz bv kb u0 u1 u2 u3 u4 u5 h0 n0 v U'.heap L ∧ FrameEnd U o U' L ({ frames := 4, cells := 1, slots := 6, locals := 111 } : Room).cells ({ frames := 4, cells := 1, slots := 6, locals := 111 } : Room).slots) := by
  refine MetFree.of_bodySF (plainFor_of_name own_pn_java_lang_String) hisR ?_
  intro p e s m args below meth c s₁ Bd hml0 hP hKq_
  obtain ⟨rfl, hZ, hh⟩ := hP
  have hx := Bd.exec
  have hby := Bd.bytes
  have hml : c.maxLocals = 2 := hml0
  have hown : s.vm.findClass "java/lang/String" = some m.cls := findClass_of_methodNamed Bd.named
  have hnm := (name_of_methodNamed Bd.named Bd.method).1
  have ow13 := hw _ (List.mem_of_getElem? (i := 13) rfl)
  have ow142 := hw _ (List.mem_of_getElem? (i := 142) rfl)
  have ow143 := hw _ (List.mem_of_getElem? (i := 143) rfl)
  have ow144 := hw _ (List.mem_of_getElem? (i := 144) rfl)
  have X0 : Stand p l e ({ frames := 4, cells := 1, slots := 6, locals := 111 } : Room) s m #[(.ref so), (.ref sb)] below meth c s₁ [] 0 0 := Stand.of_body Bd
  have e0 : s₁.heap = h0 := by rw [← hh, Bd.state]; rfl
  have N0 := Fr.nil n0
  have pre0 : ∀ t, Steps p.tables e below (s₁.setTop (mkF m 0 #[(oR so), (oR sb)] [])) t → Steps p.tables e below (s₁.setTop (entryFrame m #[(.ref so), (.ref sb)] 2)) t := fun t k => castTop (own_ef_stB m so sb) k
  refine own_go pre0 ?_
  refine own_abs ?_
  intro Pf hPf
  have nn_bv : bv ∉ ([so] : List Addr) := (ninS (own_nd hnd (i := 2) (j := 0) rfl rfl (by decide)) nin0)
  have nn_sb : sb ∉ ([so] : List Addr) := (ninS (own_nd hnd (i := 1) (j := 0) rfl rfl (by decide)) nin0)
  refine own_go (A := oW p e below s₁ (oF_stB m 3 (oR so) (oR sb) [.null, (.ref sb), (.ref so)])) (fun t k => by
    refine XS.aloadN X0.here hx rfl (hb hby o253_0) rfl rfl ?_
    show oW p e below s₁ (oF_stB m 1 (oR so) (oR sb) [(.ref so)]) _
    refine XS.aloadN X0.here hx rfl (hb hby o253_1) rfl rfl ?_
    show oW p e below s₁ (oF_stB m 2 (oR so) (oR sb) [(.ref sb), (.ref so)]) _
    refine XS.aconstNull X0.here hx rfl (hb hby o253_2) ?_
    exact k) ?_
  obtain ⟨_, _, ⟨T1, L1, k1, n1⟩, -, X1, ⟨Lc1, hQ1, l1, y1, z1⟩, st1⟩ := X0.specialBack hx (y := (⟨"java/lang/String", "<init>", "(Ljava/lang/AbstractStringBuilder;Ljava/lang/Void;)V"⟩ : MethodName)) rfl hown (mvT hZ ow142) (mvT hZ ow143) (mvT hZ ow144) (by decide) (backOf (W := 0) (own_rm_stA l Z a0 hw [] so sb cz bv kb u0 u1 u2 u3 u4 u5 h0 n0 Z0 (own_ndS (ninS (own_nd hnd (i := 0) (j := 1) rfl rfl (by decide)) (ninS (own_nd hnd (i := 0) (j := 2) rfl rfl (by decide)) nin0)) (own_ndS (ninS (own_nd hnd (i := 1) (j := 2) rfl rfl (by decide)) nin0) (own_ndS nin0 List.nodup_nil))) Eo0 Foc Fov g_so Sc0 hcz Eb0 Fbc Fbv Fbn Vv0) hZ ow144 ow13 (by decide) (by decide)) (g := (oF_stB m 3 (oR so) (oR sb) [.null, (.ref sb), (.ref so)])) rfl (by rw [hml]; rfl) (Steps.refl _) (a := so) (argsL := [(.ref sb), .null]) (rest := []) (lenOf own_pd_28Ljava2flang2fAbstractStringBuilder3bLjava2flang2fVoid3b29V rfl) rfl (by show 2 * 0 + _ ≤ _; exact Nat.le_of_eq rfl) (hb hby o253_3) (fun _ _ => ⟨rfl, e0, (by decide : 0 + 1 ≤ _), (by decide : 0 + 6 ≤ _)⟩)
  dsimp only [Pt.U, Pt.locs, Pt.cells, Pt.slots] at X1 l1 y1 z1 st1 hQ1
  subst l1 y1 z1
  obtain ⟨nb, kn, rfl, N1q, K1q, s_nb, p1_0, p1_1, p1_2, p1_3⟩ := hQ1
  have N1 := Fr.app N0 N1q
  have g_nb : n0 ≤ nb := Nat.le_trans Z0 s_nb
  have sz_nb : h0.size ≤ nb := Nat.le_trans (Keep.refl h0 [so]).1 s_nb
  have ne_so_nb : so ≠ nb := Nat.ne_of_lt (Nat.lt_of_lt_of_le Eo0.lt s_nb)
  have ne_sb_nb : sb ≠ nb := Nat.ne_of_lt (Nat.lt_of_lt_of_le Eb0.lt s_nb)
  have ne_bv_nb : bv ≠ nb := Nat.ne_of_lt (Nat.lt_of_lt_of_le Vv0.lt s_nb)
  have Z1 : n0 ≤ T1.heap.size := Nat.le_trans Z0 K1q.1
  have K1 : Keep h0 T1.heap [so] := (Keep.refl h0 [so]).trans K1q (allS (Or.inl (List.mem_of_getElem? (i := 0) rfl)) all0)
  refine own_go (fun _ k => st1.trans k) ?_
  obtain ⟨fs, hr, hrun, hended, hW, hsame⟩ := X1.leave (v := none) (fun _ => rfl)
  refine ⟨_, _, X1.returnOut hx Bd.returns (hb hby o253_6) hr, hPf _ _ ⟨hrun, hended, _, _, rfl, ?_, ⟨_, rfl⟩, hW, hsame.mono (by decide) (by decide)⟩⟩
  show own_Q_stB Z so sb cz bv kb u0 u1 u2 u3 u4 u5 h0 n0 _ T1.heap _
  exact ⟨nb, kn, rfl, N1, K1, sz_nb, p1_0, p1_1, p1_2, p1_3⟩
abbrev oF_toS (m : MethodId) (pc : Nat) (a0 : Slot) (S : List Value) : JFrame := mkF m pc #[a0] S
theorem o742_0 : decode jdk_67_method_42_code 0 = .ok (.new 18, 3) := by decide +kernel
theorem o742_3 : decode jdk_67_method_42_code 3 = .ok (.dup, 1) := by decide +kernel
theorem o742_4 : decode jdk_67_method_42_code 4 = .ok (.aload_n 0, 1) := by decide +kernel
theorem o742_5 : decode jdk_67_method_42_code 5 = .ok (.invokespecial 137, 3) := by decide +kernel
theorem own_pd_28Ljava2flang2fStringBuilder3b29V : parseMethodDescriptor "(Ljava/lang/StringBuilder;)V" = some ⟨[(.object "java/lang/StringBuilder")], none⟩ := by decide +kernel
theorem o742_8 : decode jdk_67_method_42_code 8 = .ok (.areturn, 1) := by decide +kernel
theorem own_ef_toS (m : MethodId) (x0 : Addr) : entryFrame m #[(.ref x0)] 1 = mkF m 0 #[(oR x0)] [] := by first | (simp [entryFrame, mkF, argsToLocals, Value.category]; done) | rfl
def own_Q_toS (Z : State) (sb : Addr) (cz : Int32) (bv : Addr) (kb : ClassId) (u0 u1 u2 u3 u4 u5 : Int32) (h0 : Heap) (n0 : Nat) (v : Option Value) (h : Heap) (L : List Loc) : Prop := ∃ (so nb : Addr) (kn : ClassId), v = some (.ref so) ∧ Fr n0 L ∧ Keep h0 h [] ∧ h0.size ≤ so ∧ h0.size ≤ nb ∧ so ≠ nb ∧ Exa Z h so "java/lang/String" ∧ Fld Z h so "java/lang/String" "coder" "B" (.int 0) ∧ Fld Z h so "java/lang/String" "value" "[B" (.ref nb) ∧ Arv Z h nb kn .byte (6 : Int32) [(.int u0), (.int u1), (.int u2), (.int u3), (.int u4), (.int u5)] (.int 0) ∧ Sta Z h "java/lang/String" "COMPACT_STRINGS" "Z" (.int cz)
set_option maxRecDepth 65536 in
set_option maxHeartbeats 40000000 in
theorem own_rm_toS (l : Launch) (Z : State) (a0 : Array Value) (hw : ∀ d ∈ tables_1, d.before a0 Z = true) (ws : List Jvm.Cond) (sb : Addr) (cz : Int32) (bv : Addr) (kb : ClassId) (u0 u1 u2 u3 u4 u5 : Int32) (h0 : Heap) (n0 : Nat) (Z0 : n0 ≤ h0.size) (hnd : ([sb, bv] : List Addr).Nodup) (Sc0 : Sta Z h0 "java/lang/String" "COMPACT_STRINGS" "Z" (.int cz)) (hcz : ¬ cz = (0 : Int32)) (Eb0 : Exa Z h0 sb "java/lang/StringBuilder") (Fbc : Fld Z h0 sb "java/lang/AbstractStringBuilder" "coder" "B" (.int 0)) (Fbv : Fld Z h0 sb "java/lang/AbstractStringBuilder" "value" "[B" (.ref bv)) (Fbn : Fld Z h0 sb "java/lang/AbstractStringBuilder" "count" "I" (.int 6)) (Vv0 : Arv Z h0 bv kb .byte (16 : Int32) [(.int u0), (.int u1), (.int u2), (.int u3), (.int u4), (.int u5), (.int 0), (.int 0), (.int 0), (.int 0), (.int 0), (.int 0), (.int 0), (.int 0), (.int 0), (.int 0)] (.int 0)) :
    MetFree l (⟨"java/lang/StringBuilder", "toString", "()Ljava/lang/String;"⟩ : MethodName) (head1 (Jvm.Cond.code (⟨"java/lang/StringBuilder", "toString", "()Ljava/lang/String;"⟩ : MethodName) jdk_67_method_42_code 1 (some (.object "java/lang/String")) :: ws) ({ frames := 5, cells := 2, slots := 10, locals := 125 } : Room)) (fun a U => a = #[(.ref sb)] ∧ Z.Warmed39 U.vm ∧ U.heap = h0) (fun _ _ _ _ _ => True) (fun _ U o U' => ∃ v L, o = .returned v ∧ own_Q_toS Z sb cz bv kb u0 u1 u2 u3 u4 u5 h0 n0 v U'.heap L ∧ FrameEnd U o U' L ({ frames := 5, cells := 2, slots := 10, locals := 125 } : Room).cells ({ frames := 5, cells := 2, slots := 10, locals := 125 } : Room).slots) := by
  refine MetFree.of_bodySF (plainFor_of_name own_pn_java_lang_StringBuilder) hisR ?_
  intro p e s m args below meth c s₁ Bd hml0 hP hKq_
  obtain ⟨rfl, hZ, hh⟩ := hP
  have hx := Bd.exec
  have hby := Bd.bytes
  have hml : c.maxLocals = 1 := hml0
  have hown : s.vm.findClass "java/lang/StringBuilder" = some m.cls := findClass_of_methodNamed Bd.named
  have hnm := (name_of_methodNamed Bd.named Bd.method).1
  have ow13 := hw _ (List.mem_of_getElem? (i := 13) rfl)
  have ow16 := hw _ (List.mem_of_getElem? (i := 16) rfl)
  have ow24 := hw _ (List.mem_of_getElem? (i := 24) rfl)
  have ow69 := hw _ (List.mem_of_getElem? (i := 69) rfl)
  have ow137 := hw _ (List.mem_of_getElem? (i := 137) rfl)
  have ow138 := hw _ (List.mem_of_getElem? (i := 138) rfl)
  have ow139 := hw _ (List.mem_of_getElem? (i := 139) rfl)
  have ow141 := hw _ (List.mem_of_getElem? (i := 141) rfl)
  have X0 : Stand p l e ({ frames := 5, cells := 2, slots := 10, locals := 125 } : Room) s m #[(.ref sb)] below meth c s₁ [] 0 0 := Stand.of_body Bd
  have e0 : s₁.heap = h0 := by rw [← hh, Bd.state]; rfl
  have N0 := Fr.nil n0
  have pre0 : ∀ t, Steps p.tables e below (s₁.setTop (mkF m 0 #[(oR sb)] [])) t → Steps p.tables e below (s₁.setTop (entryFrame m #[(.ref sb)] 1)) t := fun t k => castTop (own_ef_toS m sb) k
  refine own_go pre0 ?_
  refine own_abs ?_
  intro Pf hPf
  have nn_bv : bv ∉ ([] : List Addr) := nin0
  have nn_sb : sb ∉ ([] : List Addr) := nin0
  obtain ⟨T1, h1, X1, e1, E1, A1, D1, -, st1⟩ := newO X0 hx hZ hown ow137 ow69 ow13 e0 (g := (oF_toS m 0 (oR sb) [])) rfl (hb hby o742_0) (by decide) (by decide)
  obtain ⟨b1, g1⟩ : ∃ z, z = h0.size := ⟨_, rfl⟩
  rw [← g1] at A1 D1 st1
  refine own_go st1 ?_
  have ne_sb_b1 : sb ≠ b1 := Nat.ne_of_lt (Nat.lt_of_lt_of_le Eb0.lt (Nat.le_of_eq g1.symm))
  have ne_bv_b1 : bv ≠ b1 := Nat.ne_of_lt (Nat.lt_of_lt_of_le Vv0.lt (Nat.le_of_eq g1.symm))
  have g_b1 : n0 ≤ b1 := Nat.le_trans Z0 (Nat.le_of_eq g1.symm)
  have Z1 : n0 ≤ h1.size := Nat.le_trans Z0 E1.1
  have sz_b1 : h0.size ≤ b1 := Nat.le_trans (Keep.refl h0 []).1 (Nat.le_of_eq g1.symm)
  have K1 : Keep h0 h1 [] := (Keep.refl h0 []).ext E1
  have F1_value : Fld Z h1 b1 "java/lang/String" "value" "[B" .null := D1 (Or.inr ow16) (ty := (.array .byte)) (by decide)
  have F1_coder : Fld Z h1 b1 "java/lang/String" "coder" "B" (.int 0) := D1 (Or.inr ow24) (ty := .byte) (by decide)
  refine own_go (A := oW p e below T1 (oF_toS m 5 (oR sb) [(.ref sb), (.ref b1), (.ref b1)])) (fun t k => by
    refine XS.dup X1.here hx rfl (hb hby o742_3) rfl rfl ?_
    show oW p e below T1 (oF_toS m 4 (oR sb) [(.ref b1), (.ref b1)]) _
    refine XS.aloadN X1.here hx rfl (hb hby o742_4) rfl rfl ?_
    exact k) ?_
  obtain ⟨_, _, ⟨T2, L2, k2, n2⟩, -, X2, ⟨Lc2, hQ2, l2, y2, z2⟩, st2⟩ := X1.specialBack hx (y := (⟨"java/lang/String", "<init>", "(Ljava/lang/StringBuilder;)V"⟩ : MethodName)) rfl hown (mvT hZ ow138) (mvT hZ ow139) (mvT hZ ow141) (by decide) (backOf (W := 1) (own_rm_stB l Z a0 hw [] b1 sb cz bv kb u0 u1 u2 u3 u4 u5 h1 n0 Z1 (own_ndS (ninS (Ne.symm ne_sb_b1) (ninS (Ne.symm ne_bv_b1) nin0)) (own_ndS (ninS (own_nd hnd (i := 0) (j := 1) rfl rfl (by decide)) nin0) (own_ndS nin0 List.nodup_nil))) A1 F1_coder F1_value g_b1 (Sc0.ext E1) hcz (Eb0.keep K1) (Fbc.keep K1 nn_sb) (Fbv.keep K1 nn_sb) (Fbn.keep K1 nn_sb) (Vv0.keep K1 nn_bv)) hZ ow141 ow13 (by decide) (by decide)) (g := (oF_toS m 5 (oR sb) [(.ref sb), (.ref b1), (.ref b1)])) rfl (by rw [hml]; rfl) (Steps.refl _) (a := b1) (argsL := [(.ref sb)]) (rest := [(.ref b1)]) (lenOf own_pd_28Ljava2flang2fStringBuilder3b29V rfl) rfl (by show 2 * 0 + _ ≤ _; exact Nat.le_of_eq rfl) (hb hby o742_5) (fun _ _ => ⟨rfl, e1, (by decide : 1 + 1 ≤ _), (by decide : 4 + 6 ≤ _)⟩)
  dsimp only [Pt.U, Pt.locs, Pt.cells, Pt.slots] at X2 l2 y2 z2 st2 hQ2
  subst l2 y2 z2
  obtain ⟨nb, kn, rfl, N2q, K2q, s_nb, p2_0, p2_1, p2_2, p2_3⟩ := hQ2
  have N2 := Fr.app N0 N2q
  have g_nb : n0 ≤ nb := Nat.le_trans Z1 s_nb
  have sz_nb : h0.size ≤ nb := Nat.le_trans K1.1 s_nb
  have ne_sb_nb : sb ≠ nb := Nat.ne_of_lt (Nat.lt_of_lt_of_le (Eb0.keep K1).lt s_nb)
  have ne_bv_nb : bv ≠ nb := Nat.ne_of_lt (Nat.lt_of_lt_of_le (Vv0.keep K1 nn_bv).lt s_nb)
  have ne_b1_nb : b1 ≠ nb := Nat.ne_of_lt (Nat.lt_of_lt_of_le A1.lt s_nb)
  have f2_6 : Exa Z T2.heap b1 "java/lang/String" := A1.keep K2q
  have Z2 : n0 ≤ T2.heap.size := Nat.le_trans Z1 K2q.1
  have K2 : Keep h0 T2.heap [] := K1.trans K2q (allS (Or.inr sz_b1) all0)
  refine own_go (fun _ k => st2.trans k) ?_
  obtain ⟨fs, hr, hrun, hended, hW, hsame⟩ := X2.leave (v := some (.ref b1)) (fun h => by rw [Bd.returns] at h; cases h)
  refine ⟨_, _, retOut X2 hx Bd.returns rfl (Or.inr (Or.inr (Or.inr (Or.inr ⟨rfl, rfl, rfl⟩)))) (hb hby o742_8) hr, hPf _ _ ⟨hrun, hended, _, _, rfl, ?_, ⟨_, rfl⟩, hW, hsame.mono (by decide) (by decide)⟩⟩
  show own_Q_toS Z sb cz bv kb u0 u1 u2 u3 u4 u5 h0 n0 _ T2.heap _
  exact ⟨b1, nb, kn, rfl, N2, K2, sz_b1, sz_nb, ne_b1_nb, f2_6, p2_0, p2_1, p2_2, p2_3⟩
abbrev oF_isC0 (m : MethodId) (pc : Nat) (a0 : Slot) (S : List Value) : JFrame := mkF m pc #[a0] S
theorem o34_0 : decode prog_3_method_4_code 0 = .ok (.iload_n 0, 1) := by decide +kernel
theorem o34_1 : decode prog_3_method_4_code 1 = .ok (.iconst 2, 1) := by decide +kernel
theorem o34_2 : decode prog_3_method_4_code 2 = .ok (.if_icmp .eq 13, 3) := by decide +kernel
theorem o34_5 : decode prog_3_method_4_code 5 = .ok (.iload_n 0, 1) := by decide +kernel
theorem o34_6 : decode prog_3_method_4_code 6 = .ok (.iconst 3, 1) := by decide +kernel
theorem o34_7 : decode prog_3_method_4_code 7 = .ok (.if_icmp .eq 8, 3) := by decide +kernel
theorem o34_10 : decode prog_3_method_4_code 10 = .ok (.iload_n 0, 1) := by decide +kernel
theorem o34_11 : decode prog_3_method_4_code 11 = .ok (.iconst 5, 1) := by decide +kernel
theorem o34_12 : decode prog_3_method_4_code 12 = .ok (.if_icmp .ne 7, 3) := by decide +kernel
theorem o34_19 : decode prog_3_method_4_code 19 = .ok (.iconst 0, 1) := by decide +kernel
theorem o34_20 : decode prog_3_method_4_code 20 = .ok (.ireturn, 1) := by decide +kernel
theorem own_ef_isC0 (m : MethodId) (x0 : Int32) : entryFrame m #[(.int x0)] 1 = mkF m 0 #[(oi x0)] [] := by first | (simp [entryFrame, mkF, argsToLocals, Value.category]; done) | rfl
def own_Q_isC0 (Z : State)  (h0 : Heap) (n0 : Nat) (v : Option Value) (h : Heap) (L : List Loc) : Prop := v = some (.int 0) ∧ Fr n0 L ∧ h = h0
theorem own_pn_com_example_feeder_feeder_adapters_FrameFormat : plainName "com/example/feeder/feeder/adapters/FrameFormat" = true := by first | (simp [plainName, overriddenIn]; done) | decide +kernel
set_option maxRecDepth 65536 in
set_option maxHeartbeats 40000000 in
theorem own_rm_isC0 (l : Launch) (Z : State) (a0 : Array Value) (hw : ∀ d ∈ tables_1, d.before a0 Z = true) (ws : List Jvm.Cond)  (h0 : Heap) (n0 : Nat) (Z0 : n0 ≤ h0.size) :
    MetFree l (⟨"com/example/feeder/feeder/adapters/FrameFormat", "isConfiguration", "(I)Z"⟩ : MethodName) (head1 (Jvm.Cond.code (⟨"com/example/feeder/feeder/adapters/FrameFormat", "isConfiguration", "(I)Z"⟩ : MethodName) prog_3_method_4_code 1 (some .boolean) :: ws) ({ frames := 0, cells := 0, slots := 0, locals := 0 } : Room)) (fun a U => a = #[(.int 0)] ∧ Z.Warmed39 U.vm ∧ U.heap = h0) (fun _ _ _ _ _ => True) (fun _ U o U' => ∃ v L, o = .returned v ∧ own_Q_isC0 Z  h0 n0 v U'.heap L ∧ FrameEnd U o U' L ({ frames := 0, cells := 0, slots := 0, locals := 0 } : Room).cells ({ frames := 0, cells := 0, slots := 0, locals := 0 } : Room).slots) := by
  refine MetFree.of_bodySF (plainFor_of_name own_pn_com_example_feeder_feeder_adapters_FrameFormat) hisR ?_
  intro p e s m args below meth c s₁ Bd hml0 hP hKq_
  obtain ⟨rfl, hZ, hh⟩ := hP
  have hx := Bd.exec
  have hby := Bd.bytes
  have hml : c.maxLocals = 1 := hml0
  have hown : s.vm.findClass "com/example/feeder/feeder/adapters/FrameFormat" = some m.cls := findClass_of_methodNamed Bd.named
  have hnm := (name_of_methodNamed Bd.named Bd.method).1
  have X0 : Stand p l e ({ frames := 0, cells := 0, slots := 0, locals := 0 } : Room) s m #[(.int 0)] below meth c s₁ [] 0 0 := Stand.of_body Bd
  have e0 : s₁.heap = h0 := by rw [← hh, Bd.state]; rfl
  have N0 := Fr.nil n0
  have pre0 : ∀ t, Steps p.tables e below (s₁.setTop (mkF m 0 #[(oi 0)] [])) t → Steps p.tables e below (s₁.setTop (entryFrame m #[(.int 0)] 1)) t := fun t k => castTop (own_ef_isC0 m (0 : Int32)) k
  refine own_go pre0 ?_
  refine own_abs ?_
  intro Pf hPf
  refine own_go (A := oW p e below s₁ (oF_isC0 m 20 (oi 0) [(.int 0)])) (fun t k => by
    refine XS.iloadN X0.here hx rfl (hb hby o34_0) rfl ?_
    show oW p e below s₁ (oF_isC0 m 1 (oi 0) [(.int 0)]) _
    refine XS.iconst X0.here hx rfl (hb hby o34_1) ?_
    show oW p e below s₁ (oF_isC0 m 2 (oi 0) [(.int 2), (.int 0)]) _
    refine XS.icmpNo X0.here hx rfl (hb hby o34_2) rfl (feq (by decide : ¬ ((0 : Int32) = (2 : Int32)))).1 ?_
    show oW p e below s₁ (oF_isC0 m 5 (oi 0) []) _
    refine XS.iloadN X0.here hx rfl (hb hby o34_5) rfl ?_
    show oW p e below s₁ (oF_isC0 m 6 (oi 0) [(.int 0)]) _
    refine XS.iconst X0.here hx rfl (hb hby o34_6) ?_
    show oW p e below s₁ (oF_isC0 m 7 (oi 0) [(.int 3), (.int 0)]) _
    refine XS.icmpNo X0.here hx rfl (hb hby o34_7) rfl (feq (by decide : ¬ ((0 : Int32) = (3 : Int32)))).1 ?_
    show oW p e below s₁ (oF_isC0 m 10 (oi 0) []) _
    refine XS.iloadN X0.here hx rfl (hb hby o34_10) rfl ?_
    show oW p e below s₁ (oF_isC0 m 11 (oi 0) [(.int 0)]) _
    refine XS.iconst X0.here hx rfl (hb hby o34_11) ?_
    show oW p e below s₁ (oF_isC0 m 12 (oi 0) [(.int 5), (.int 0)]) _
    refine XS.icmpYes X0.here hx rfl (pc0 := 12) (pc' := 19) rfl (hb hby o34_12) rfl (feq (by decide : ¬ ((0 : Int32) = (5 : Int32)))).2 (by decide) (by decide) ?_
    show oW p e below s₁ (oF_isC0 m 19 (oi 0) []) _
    refine XS.iconst X0.here hx rfl (hb hby o34_19) ?_
    exact k) ?_
  obtain ⟨fs, hr, hrun, hended, hW, hsame⟩ := X0.leave (v := some (.int (nar .boolean (0 : Int32)))) (fun h => by rw [Bd.returns] at h; cases h)
  refine ⟨_, _, retN X0 hx (t := .boolean) Bd.returns (by simp) (hb hby o34_20) hr, hPf _ _ ⟨hrun, hended, _, _, rfl, ?_, ⟨_, rfl⟩, hW, hsame.mono (by decide) (by decide)⟩⟩
  show own_Q_isC0 Z  h0 n0 _ s₁.heap _
  rw [e0]
  exact ⟨rfl, N0, rfl⟩
abbrev oF_isC1 (m : MethodId) (pc : Nat) (a0 : Slot) (S : List Value) : JFrame := mkF m pc #[a0] S
theorem own_ef_isC1 (m : MethodId) (x0 : Int32) : entryFrame m #[(.int x0)] 1 = mkF m 0 #[(oi x0)] [] := by first | (simp [entryFrame, mkF, argsToLocals, Value.category]; done) | rfl
def own_Q_isC1 (Z : State)  (h0 : Heap) (n0 : Nat) (v : Option Value) (h : Heap) (L : List Loc) : Prop := v = some (.int 0) ∧ Fr n0 L ∧ h = h0
set_option maxRecDepth 65536 in
set_option maxHeartbeats 40000000 in
theorem own_rm_isC1 (l : Launch) (Z : State) (a0 : Array Value) (hw : ∀ d ∈ tables_1, d.before a0 Z = true) (ws : List Jvm.Cond)  (h0 : Heap) (n0 : Nat) (Z0 : n0 ≤ h0.size) :
    MetFree l (⟨"com/example/feeder/feeder/adapters/FrameFormat", "isConfiguration", "(I)Z"⟩ : MethodName) (head1 (Jvm.Cond.code (⟨"com/example/feeder/feeder/adapters/FrameFormat", "isConfiguration", "(I)Z"⟩ : MethodName) prog_3_method_4_code 1 (some .boolean) :: ws) ({ frames := 0, cells := 0, slots := 0, locals := 0 } : Room)) (fun a U => a = #[(.int 1)] ∧ Z.Warmed39 U.vm ∧ U.heap = h0) (fun _ _ _ _ _ => True) (fun _ U o U' => ∃ v L, o = .returned v ∧ own_Q_isC1 Z  h0 n0 v U'.heap L ∧ FrameEnd U o U' L ({ frames := 0, cells := 0, slots := 0, locals := 0 } : Room).cells ({ frames := 0, cells := 0, slots := 0, locals := 0 } : Room).slots) := by
  refine MetFree.of_bodySF (plainFor_of_name own_pn_com_example_feeder_feeder_adapters_FrameFormat) hisR ?_
  intro p e s m args below meth c s₁ Bd hml0 hP hKq_
  obtain ⟨rfl, hZ, hh⟩ := hP
  have hx := Bd.exec
  have hby := Bd.bytes
  have hml : c.maxLocals = 1 := hml0
  have hown : s.vm.findClass "com/example/feeder/feeder/adapters/FrameFormat" = some m.cls := findClass_of_methodNamed Bd.named
  have hnm := (name_of_methodNamed Bd.named Bd.method).1
  have X0 : Stand p l e ({ frames := 0, cells := 0, slots := 0, locals := 0 } : Room) s m #[(.int 1)] below meth c s₁ [] 0 0 := Stand.of_body Bd
  have e0 : s₁.heap = h0 := by rw [← hh, Bd.state]; rfl
  have N0 := Fr.nil n0
  have pre0 : ∀ t, Steps p.tables e below (s₁.setTop (mkF m 0 #[(oi 1)] [])) t → Steps p.tables e below (s₁.setTop (entryFrame m #[(.int 1)] 1)) t := fun t k => castTop (own_ef_isC1 m (1 : Int32)) k
  refine own_go pre0 ?_
  refine own_abs ?_
  intro Pf hPf
  refine own_go (A := oW p e below s₁ (oF_isC1 m 20 (oi 1) [(.int 0)])) (fun t k => by
    refine XS.iloadN X0.here hx rfl (hb hby o34_0) rfl ?_
    show oW p e below s₁ (oF_isC1 m 1 (oi 1) [(.int 1)]) _
    refine XS.iconst X0.here hx rfl (hb hby o34_1) ?_
    show oW p e below s₁ (oF_isC1 m 2 (oi 1) [(.int 2), (.int 1)]) _
    refine XS.icmpNo X0.here hx rfl (hb hby o34_2) rfl (feq (by decide : ¬ ((1 : Int32) = (2 : Int32)))).1 ?_
    show oW p e below s₁ (oF_isC1 m 5 (oi 1) []) _
    refine XS.iloadN X0.here hx rfl (hb hby o34_5) rfl ?_
    show oW p e below s₁ (oF_isC1 m 6 (oi 1) [(.int 1)]) _
    refine XS.iconst X0.here hx rfl (hb hby o34_6) ?_
    show oW p e below s₁ (oF_isC1 m 7 (oi 1) [(.int 3), (.int 1)]) _
    refine XS.icmpNo X0.here hx rfl (hb hby o34_7) rfl (feq (by decide : ¬ ((1 : Int32) = (3 : Int32)))).1 ?_
    show oW p e below s₁ (oF_isC1 m 10 (oi 1) []) _
    refine XS.iloadN X0.here hx rfl (hb hby o34_10) rfl ?_
    show oW p e below s₁ (oF_isC1 m 11 (oi 1) [(.int 1)]) _
    refine XS.iconst X0.here hx rfl (hb hby o34_11) ?_
    show oW p e below s₁ (oF_isC1 m 12 (oi 1) [(.int 5), (.int 1)]) _
    refine XS.icmpYes X0.here hx rfl (pc0 := 12) (pc' := 19) rfl (hb hby o34_12) rfl (feq (by decide : ¬ ((1 : Int32) = (5 : Int32)))).2 (by decide) (by decide) ?_
    show oW p e below s₁ (oF_isC1 m 19 (oi 1) []) _
    refine XS.iconst X0.here hx rfl (hb hby o34_19) ?_
    exact k) ?_
  obtain ⟨fs, hr, hrun, hended, hW, hsame⟩ := X0.leave (v := some (.int (nar .boolean (0 : Int32)))) (fun h => by rw [Bd.returns] at h; cases h)
  refine ⟨_, _, retN X0 hx (t := .boolean) Bd.returns (by simp) (hb hby o34_20) hr, hPf _ _ ⟨hrun, hended, _, _, rfl, ?_, ⟨_, rfl⟩, hW, hsame.mono (by decide) (by decide)⟩⟩
  show own_Q_isC1 Z  h0 n0 _ s₁.heap _
  rw [e0]
  exact ⟨rfl, N0, rfl⟩
abbrev oF_isC2 (m : MethodId) (pc : Nat) (a0 : Slot) (S : List Value) : JFrame := mkF m pc #[a0] S
theorem o34_15 : decode prog_3_method_4_code 15 = .ok (.iconst 1, 1) := by decide +kernel
theorem o34_16 : decode prog_3_method_4_code 16 = .ok (.goto 4, 3) := by decide +kernel
theorem own_ef_isC2 (m : MethodId) (x0 : Int32) : entryFrame m #[(.int x0)] 1 = mkF m 0 #[(oi x0)] [] := by first | (simp [entryFrame, mkF, argsToLocals, Value.category]; done) | rfl
def own_Q_isC2 (Z : State)  (h0 : Heap) (n0 : Nat) (v : Option Value) (h : Heap) (L : List Loc) : Prop := v = some (.int 1) ∧ Fr n0 L ∧ h = h0
set_option maxRecDepth 65536 in
set_option maxHeartbeats 40000000 in
theorem own_rm_isC2 (l : Launch) (Z : State) (a0 : Array Value) (hw : ∀ d ∈ tables_1, d.before a0 Z = true) (ws : List Jvm.Cond)  (h0 : Heap) (n0 : Nat) (Z0 : n0 ≤ h0.size) :
    MetFree l (⟨"com/example/feeder/feeder/adapters/FrameFormat", "isConfiguration", "(I)Z"⟩ : MethodName) (head1 (Jvm.Cond.code (⟨"com/example/feeder/feeder/adapters/FrameFormat", "isConfiguration", "(I)Z"⟩ : MethodName) prog_3_method_4_code 1 (some .boolean) :: ws) ({ frames := 0, cells := 0, slots := 0, locals := 0 } : Room)) (fun a U => a = #[(.int 2)] ∧ Z.Warmed39 U.vm ∧ U.heap = h0) (fun _ _ _ _ _ => True) (fun _ U o U' => ∃ v L, o = .returned v ∧ own_Q_isC2 Z  h0 n0 v U'.heap L ∧ FrameEnd U o U' L ({ frames := 0, cells := 0, slots := 0, locals := 0 } : Room).cells ({ frames := 0, cells := 0, slots := 0, locals := 0 } : Room).slots) := by
  refine MetFree.of_bodySF (plainFor_of_name own_pn_com_example_feeder_feeder_adapters_FrameFormat) hisR ?_
  intro p e s m args below meth c s₁ Bd hml0 hP hKq_
  obtain ⟨rfl, hZ, hh⟩ := hP
  have hx := Bd.exec
  have hby := Bd.bytes
  have hml : c.maxLocals = 1 := hml0
  have hown : s.vm.findClass "com/example/feeder/feeder/adapters/FrameFormat" = some m.cls := findClass_of_methodNamed Bd.named
  have hnm := (name_of_methodNamed Bd.named Bd.method).1
  have X0 : Stand p l e ({ frames := 0, cells := 0, slots := 0, locals := 0 } : Room) s m #[(.int 2)] below meth c s₁ [] 0 0 := Stand.of_body Bd
  have e0 : s₁.heap = h0 := by rw [← hh, Bd.state]; rfl
  have N0 := Fr.nil n0
  have pre0 : ∀ t, Steps p.tables e below (s₁.setTop (mkF m 0 #[(oi 2)] [])) t → Steps p.tables e below (s₁.setTop (entryFrame m #[(.int 2)] 1)) t := fun t k => castTop (own_ef_isC2 m (2 : Int32)) k
  refine own_go pre0 ?_
  refine own_abs ?_
  intro Pf hPf
  refine own_go (A := oW p e below s₁ (oF_isC2 m 20 (oi 2) [(.int 1)])) (fun t k => by
    refine XS.iloadN X0.here hx rfl (hb hby o34_0) rfl ?_
    show oW p e below s₁ (oF_isC2 m 1 (oi 2) [(.int 2)]) _
    refine XS.iconst X0.here hx rfl (hb hby o34_1) ?_
    show oW p e below s₁ (oF_isC2 m 2 (oi 2) [(.int 2), (.int 2)]) _
    refine XS.icmpYes X0.here hx rfl (pc0 := 2) (pc' := 15) rfl (hb hby o34_2) rfl (teq (by decide : (2 : Int32) = (2 : Int32))).1 (by decide) (by decide) ?_
    show oW p e below s₁ (oF_isC2 m 15 (oi 2) []) _
    refine XS.iconst X0.here hx rfl (hb hby o34_15) ?_
    show oW p e below s₁ (oF_isC2 m 16 (oi 2) [(.int 1)]) _
    refine XS.goto X0.here hx rfl (pc0 := 16) (pc' := 20) rfl (hb hby o34_16) (by decide) (by decide) ?_
    exact k) ?_
  obtain ⟨fs, hr, hrun, hended, hW, hsame⟩ := X0.leave (v := some (.int (nar .boolean (1 : Int32)))) (fun h => by rw [Bd.returns] at h; cases h)
  refine ⟨_, _, retN X0 hx (t := .boolean) Bd.returns (by simp) (hb hby o34_20) hr, hPf _ _ ⟨hrun, hended, _, _, rfl, ?_, ⟨_, rfl⟩, hW, hsame.mono (by decide) (by decide)⟩⟩
  show own_Q_isC2 Z  h0 n0 _ s₁.heap _
  rw [e0]
  exact ⟨rfl, N0, rfl⟩
abbrev oF_isC3 (m : MethodId) (pc : Nat) (a0 : Slot) (S : List Value) : JFrame := mkF m pc #[a0] S
theorem own_ef_isC3 (m : MethodId) (x0 : Int32) : entryFrame m #[(.int x0)] 1 = mkF m 0 #[(oi x0)] [] := by first | (simp [entryFrame, mkF, argsToLocals, Value.category]; done) | rfl
def own_Q_isC3 (Z : State)  (h0 : Heap) (n0 : Nat) (v : Option Value) (h : Heap) (L : List Loc) : Prop := v = some (.int 1) ∧ Fr n0 L ∧ h = h0
set_option maxRecDepth 65536 in
set_option maxHeartbeats 40000000 in
theorem own_rm_isC3 (l : Launch) (Z : State) (a0 : Array Value) (hw : ∀ d ∈ tables_1, d.before a0 Z = true) (ws : List Jvm.Cond)  (h0 : Heap) (n0 : Nat) (Z0 : n0 ≤ h0.size) :
    MetFree l (⟨"com/example/feeder/feeder/adapters/FrameFormat", "isConfiguration", "(I)Z"⟩ : MethodName) (head1 (Jvm.Cond.code (⟨"com/example/feeder/feeder/adapters/FrameFormat", "isConfiguration", "(I)Z"⟩ : MethodName) prog_3_method_4_code 1 (some .boolean) :: ws) ({ frames := 0, cells := 0, slots := 0, locals := 0 } : Room)) (fun a U => a = #[(.int 3)] ∧ Z.Warmed39 U.vm ∧ U.heap = h0) (fun _ _ _ _ _ => True) (fun _ U o U' => ∃ v L, o = .returned v ∧ own_Q_isC3 Z  h0 n0 v U'.heap L ∧ FrameEnd U o U' L ({ frames := 0, cells := 0, slots := 0, locals := 0 } : Room).cells ({ frames := 0, cells := 0, slots := 0, locals := 0 } : Room).slots) := by
  refine MetFree.of_bodySF (plainFor_of_name own_pn_com_example_feeder_feeder_adapters_FrameFormat) hisR ?_
  intro p e s m args below meth c s₁ Bd hml0 hP hKq_
  obtain ⟨rfl, hZ, hh⟩ := hP
  have hx := Bd.exec
  have hby := Bd.bytes
  have hml : c.maxLocals = 1 := hml0
  have hown : s.vm.findClass "com/example/feeder/feeder/adapters/FrameFormat" = some m.cls := findClass_of_methodNamed Bd.named
  have hnm := (name_of_methodNamed Bd.named Bd.method).1
  have X0 : Stand p l e ({ frames := 0, cells := 0, slots := 0, locals := 0 } : Room) s m #[(.int 3)] below meth c s₁ [] 0 0 := Stand.of_body Bd
  have e0 : s₁.heap = h0 := by rw [← hh, Bd.state]; rfl
  have N0 := Fr.nil n0
  have pre0 : ∀ t, Steps p.tables e below (s₁.setTop (mkF m 0 #[(oi 3)] [])) t → Steps p.tables e below (s₁.setTop (entryFrame m #[(.int 3)] 1)) t := fun t k => castTop (own_ef_isC3 m (3 : Int32)) k
  refine own_go pre0 ?_
  refine own_abs ?_
  intro Pf hPf
  refine own_go (A := oW p e below s₁ (oF_isC3 m 20 (oi 3) [(.int 1)])) (fun t k => by
    refine XS.iloadN X0.here hx rfl (hb hby o34_0) rfl ?_
    show oW p e below s₁ (oF_isC3 m 1 (oi 3) [(.int 3)]) _
    refine XS.iconst X0.here hx rfl (hb hby o34_1) ?_
    show oW p e below s₁ (oF_isC3 m 2 (oi 3) [(.int 2), (.int 3)]) _
    refine XS.icmpNo X0.here hx rfl (hb hby o34_2) rfl (feq (by decide : ¬ ((3 : Int32) = (2 : Int32)))).1 ?_
    show oW p e below s₁ (oF_isC3 m 5 (oi 3) []) _
    refine XS.iloadN X0.here hx rfl (hb hby o34_5) rfl ?_
    show oW p e below s₁ (oF_isC3 m 6 (oi 3) [(.int 3)]) _
    refine XS.iconst X0.here hx rfl (hb hby o34_6) ?_
    show oW p e below s₁ (oF_isC3 m 7 (oi 3) [(.int 3), (.int 3)]) _
    refine XS.icmpYes X0.here hx rfl (pc0 := 7) (pc' := 15) rfl (hb hby o34_7) rfl (teq (by decide : (3 : Int32) = (3 : Int32))).1 (by decide) (by decide) ?_
    show oW p e below s₁ (oF_isC3 m 15 (oi 3) []) _
    refine XS.iconst X0.here hx rfl (hb hby o34_15) ?_
    show oW p e below s₁ (oF_isC3 m 16 (oi 3) [(.int 1)]) _
    refine XS.goto X0.here hx rfl (pc0 := 16) (pc' := 20) rfl (hb hby o34_16) (by decide) (by decide) ?_
    exact k) ?_
  obtain ⟨fs, hr, hrun, hended, hW, hsame⟩ := X0.leave (v := some (.int (nar .boolean (1 : Int32)))) (fun h => by rw [Bd.returns] at h; cases h)
  refine ⟨_, _, retN X0 hx (t := .boolean) Bd.returns (by simp) (hb hby o34_20) hr, hPf _ _ ⟨hrun, hended, _, _, rfl, ?_, ⟨_, rfl⟩, hW, hsame.mono (by decide) (by decide)⟩⟩
  show own_Q_isC3 Z  h0 n0 _ s₁.heap _
  rw [e0]
  exact ⟨rfl, N0, rfl⟩
abbrev oF_isC4 (m : MethodId) (pc : Nat) (a0 : Slot) (S : List Value) : JFrame := mkF m pc #[a0] S
theorem own_ef_isC4 (m : MethodId) (x0 : Int32) : entryFrame m #[(.int x0)] 1 = mkF m 0 #[(oi x0)] [] := by first | (simp [entryFrame, mkF, argsToLocals, Value.category]; done) | rfl
def own_Q_isC4 (Z : State)  (h0 : Heap) (n0 : Nat) (v : Option Value) (h : Heap) (L : List Loc) : Prop := v = some (.int 0) ∧ Fr n0 L ∧ h = h0
set_option maxRecDepth 65536 in
set_option maxHeartbeats 40000000 in
theorem own_rm_isC4 (l : Launch) (Z : State) (a0 : Array Value) (hw : ∀ d ∈ tables_1, d.before a0 Z = true) (ws : List Jvm.Cond)  (h0 : Heap) (n0 : Nat) (Z0 : n0 ≤ h0.size) :
    MetFree l (⟨"com/example/feeder/feeder/adapters/FrameFormat", "isConfiguration", "(I)Z"⟩ : MethodName) (head1 (Jvm.Cond.code (⟨"com/example/feeder/feeder/adapters/FrameFormat", "isConfiguration", "(I)Z"⟩ : MethodName) prog_3_method_4_code 1 (some .boolean) :: ws) ({ frames := 0, cells := 0, slots := 0, locals := 0 } : Room)) (fun a U => a = #[(.int 4)] ∧ Z.Warmed39 U.vm ∧ U.heap = h0) (fun _ _ _ _ _ => True) (fun _ U o U' => ∃ v L, o = .returned v ∧ own_Q_isC4 Z  h0 n0 v U'.heap L ∧ FrameEnd U o U' L ({ frames := 0, cells := 0, slots := 0, locals := 0 } : Room).cells ({ frames := 0, cells := 0, slots := 0, locals := 0 } : Room).slots) := by
  refine MetFree.of_bodySF (plainFor_of_name own_pn_com_example_feeder_feeder_adapters_FrameFormat) hisR ?_
  intro p e s m args below meth c s₁ Bd hml0 hP hKq_
  obtain ⟨rfl, hZ, hh⟩ := hP
  have hx := Bd.exec
  have hby := Bd.bytes
  have hml : c.maxLocals = 1 := hml0
  have hown : s.vm.findClass "com/example/feeder/feeder/adapters/FrameFormat" = some m.cls := findClass_of_methodNamed Bd.named
  have hnm := (name_of_methodNamed Bd.named Bd.method).1
  have X0 : Stand p l e ({ frames := 0, cells := 0, slots := 0, locals := 0 } : Room) s m #[(.int 4)] below meth c s₁ [] 0 0 := Stand.of_body Bd
  have e0 : s₁.heap = h0 := by rw [← hh, Bd.state]; rfl
  have N0 := Fr.nil n0
  have pre0 : ∀ t, Steps p.tables e below (s₁.setTop (mkF m 0 #[(oi 4)] [])) t → Steps p.tables e below (s₁.setTop (entryFrame m #[(.int 4)] 1)) t := fun t k => castTop (own_ef_isC4 m (4 : Int32)) k
  refine own_go pre0 ?_
  refine own_abs ?_
  intro Pf hPf
  refine own_go (A := oW p e below s₁ (oF_isC4 m 20 (oi 4) [(.int 0)])) (fun t k => by
    refine XS.iloadN X0.here hx rfl (hb hby o34_0) rfl ?_
    show oW p e below s₁ (oF_isC4 m 1 (oi 4) [(.int 4)]) _
    refine XS.iconst X0.here hx rfl (hb hby o34_1) ?_
    show oW p e below s₁ (oF_isC4 m 2 (oi 4) [(.int 2), (.int 4)]) _
    refine XS.icmpNo X0.here hx rfl (hb hby o34_2) rfl (feq (by decide : ¬ ((4 : Int32) = (2 : Int32)))).1 ?_
    show oW p e below s₁ (oF_isC4 m 5 (oi 4) []) _
    refine XS.iloadN X0.here hx rfl (hb hby o34_5) rfl ?_
    show oW p e below s₁ (oF_isC4 m 6 (oi 4) [(.int 4)]) _
    refine XS.iconst X0.here hx rfl (hb hby o34_6) ?_
    show oW p e below s₁ (oF_isC4 m 7 (oi 4) [(.int 3), (.int 4)]) _
    refine XS.icmpNo X0.here hx rfl (hb hby o34_7) rfl (feq (by decide : ¬ ((4 : Int32) = (3 : Int32)))).1 ?_
    show oW p e below s₁ (oF_isC4 m 10 (oi 4) []) _
    refine XS.iloadN X0.here hx rfl (hb hby o34_10) rfl ?_
    show oW p e below s₁ (oF_isC4 m 11 (oi 4) [(.int 4)]) _
    refine XS.iconst X0.here hx rfl (hb hby o34_11) ?_
    show oW p e below s₁ (oF_isC4 m 12 (oi 4) [(.int 5), (.int 4)]) _
    refine XS.icmpYes X0.here hx rfl (pc0 := 12) (pc' := 19) rfl (hb hby o34_12) rfl (feq (by decide : ¬ ((4 : Int32) = (5 : Int32)))).2 (by decide) (by decide) ?_
    show oW p e below s₁ (oF_isC4 m 19 (oi 4) []) _
    refine XS.iconst X0.here hx rfl (hb hby o34_19) ?_
    exact k) ?_
  obtain ⟨fs, hr, hrun, hended, hW, hsame⟩ := X0.leave (v := some (.int (nar .boolean (0 : Int32)))) (fun h => by rw [Bd.returns] at h; cases h)
  refine ⟨_, _, retN X0 hx (t := .boolean) Bd.returns (by simp) (hb hby o34_20) hr, hPf _ _ ⟨hrun, hended, _, _, rfl, ?_, ⟨_, rfl⟩, hW, hsame.mono (by decide) (by decide)⟩⟩
  show own_Q_isC4 Z  h0 n0 _ s₁.heap _
  rw [e0]
  exact ⟨rfl, N0, rfl⟩
abbrev oF_isC5 (m : MethodId) (pc : Nat) (a0 : Slot) (S : List Value) : JFrame := mkF m pc #[a0] S
theorem own_ef_isC5 (m : MethodId) (x0 : Int32) : entryFrame m #[(.int x0)] 1 = mkF m 0 #[(oi x0)] [] := by first | (simp [entryFrame, mkF, argsToLocals, Value.category]; done) | rfl
def own_Q_isC5 (Z : State)  (h0 : Heap) (n0 : Nat) (v : Option Value) (h : Heap) (L : List Loc) : Prop := v = some (.int 1) ∧ Fr n0 L ∧ h = h0
set_option maxRecDepth 65536 in
set_option maxHeartbeats 40000000 in
theorem own_rm_isC5 (l : Launch) (Z : State) (a0 : Array Value) (hw : ∀ d ∈ tables_1, d.before a0 Z = true) (ws : List Jvm.Cond)  (h0 : Heap) (n0 : Nat) (Z0 : n0 ≤ h0.size) :
    MetFree l (⟨"com/example/feeder/feeder/adapters/FrameFormat", "isConfiguration", "(I)Z"⟩ : MethodName) (head1 (Jvm.Cond.code (⟨"com/example/feeder/feeder/adapters/FrameFormat", "isConfiguration", "(I)Z"⟩ : MethodName) prog_3_method_4_code 1 (some .boolean) :: ws) ({ frames := 0, cells := 0, slots := 0, locals := 0 } : Room)) (fun a U => a = #[(.int 5)] ∧ Z.Warmed39 U.vm ∧ U.heap = h0) (fun _ _ _ _ _ => True) (fun _ U o U' => ∃ v L, o = .returned v ∧ own_Q_isC5 Z  h0 n0 v U'.heap L ∧ FrameEnd U o U' L ({ frames := 0, cells := 0, slots := 0, locals := 0 } : Room).cells ({ frames := 0, cells := 0, slots := 0, locals := 0 } : Room).slots) := by
  refine MetFree.of_bodySF (plainFor_of_name own_pn_com_example_feeder_feeder_adapters_FrameFormat) hisR ?_
  intro p e s m args below meth c s₁ Bd hml0 hP hKq_
  obtain ⟨rfl, hZ, hh⟩ := hP
  have hx := Bd.exec
  have hby := Bd.bytes
  have hml : c.maxLocals = 1 := hml0
  have hown : s.vm.findClass "com/example/feeder/feeder/adapters/FrameFormat" = some m.cls := findClass_of_methodNamed Bd.named
  have hnm := (name_of_methodNamed Bd.named Bd.method).1
  have X0 : Stand p l e ({ frames := 0, cells := 0, slots := 0, locals := 0 } : Room) s m #[(.int 5)] below meth c s₁ [] 0 0 := Stand.of_body Bd
  have e0 : s₁.heap = h0 := by rw [← hh, Bd.state]; rfl
  have N0 := Fr.nil n0
  have pre0 : ∀ t, Steps p.tables e below (s₁.setTop (mkF m 0 #[(oi 5)] [])) t → Steps p.tables e below (s₁.setTop (entryFrame m #[(.int 5)] 1)) t := fun t k => castTop (own_ef_isC5 m (5 : Int32)) k
  refine own_go pre0 ?_
  refine own_abs ?_
  intro Pf hPf
  refine own_go (A := oW p e below s₁ (oF_isC5 m 20 (oi 5) [(.int 1)])) (fun t k => by
    refine XS.iloadN X0.here hx rfl (hb hby o34_0) rfl ?_
    show oW p e below s₁ (oF_isC5 m 1 (oi 5) [(.int 5)]) _
    refine XS.iconst X0.here hx rfl (hb hby o34_1) ?_
    show oW p e below s₁ (oF_isC5 m 2 (oi 5) [(.int 2), (.int 5)]) _
    refine XS.icmpNo X0.here hx rfl (hb hby o34_2) rfl (feq (by decide : ¬ ((5 : Int32) = (2 : Int32)))).1 ?_
    show oW p e below s₁ (oF_isC5 m 5 (oi 5) []) _
    refine XS.iloadN X0.here hx rfl (hb hby o34_5) rfl ?_
    show oW p e below s₁ (oF_isC5 m 6 (oi 5) [(.int 5)]) _
    refine XS.iconst X0.here hx rfl (hb hby o34_6) ?_
    show oW p e below s₁ (oF_isC5 m 7 (oi 5) [(.int 3), (.int 5)]) _
    refine XS.icmpNo X0.here hx rfl (hb hby o34_7) rfl (feq (by decide : ¬ ((5 : Int32) = (3 : Int32)))).1 ?_
    show oW p e below s₁ (oF_isC5 m 10 (oi 5) []) _
    refine XS.iloadN X0.here hx rfl (hb hby o34_10) rfl ?_
    show oW p e below s₁ (oF_isC5 m 11 (oi 5) [(.int 5)]) _
    refine XS.iconst X0.here hx rfl (hb hby o34_11) ?_
    show oW p e below s₁ (oF_isC5 m 12 (oi 5) [(.int 5), (.int 5)]) _
    refine XS.icmpNo X0.here hx rfl (hb hby o34_12) rfl (teq (by decide : (5 : Int32) = (5 : Int32))).2 ?_
    show oW p e below s₁ (oF_isC5 m 15 (oi 5) []) _
    refine XS.iconst X0.here hx rfl (hb hby o34_15) ?_
    show oW p e below s₁ (oF_isC5 m 16 (oi 5) [(.int 1)]) _
    refine XS.goto X0.here hx rfl (pc0 := 16) (pc' := 20) rfl (hb hby o34_16) (by decide) (by decide) ?_
    exact k) ?_
  obtain ⟨fs, hr, hrun, hended, hW, hsame⟩ := X0.leave (v := some (.int (nar .boolean (1 : Int32)))) (fun h => by rw [Bd.returns] at h; cases h)
  refine ⟨_, _, retN X0 hx (t := .boolean) Bd.returns (by simp) (hb hby o34_20) hr, hPf _ _ ⟨hrun, hended, _, _, rfl, ?_, ⟨_, rfl⟩, hW, hsame.mono (by decide) (by decide)⟩⟩
  show own_Q_isC5 Z  h0 n0 _ s₁.heap _
  rw [e0]
  exact ⟨rfl, N0, rfl⟩
abbrev oF_isC6 (m : MethodId) (pc : Nat) (a0 : Slot) (S : List Value) : JFrame := mkF m pc #[a0] S
theorem own_ef_isC6 (m : MethodId) (x0 : Int32) : entryFrame m #[(.int x0)] 1 = mkF m 0 #[(oi x0)] [] := by first | (simp [entryFrame, mkF, argsToLocals, Value.category]; done) | rfl
def own_Q_isC6 (Z : State)  (h0 : Heap) (n0 : Nat) (v : Option Value) (h : Heap) (L : List Loc) : Prop := v = some (.int 0) ∧ Fr n0 L ∧ h = h0
set_option maxRecDepth 65536 in
set_option maxHeartbeats 40000000 in
theorem own_rm_isC6 (l : Launch) (Z : State) (a0 : Array Value) (hw : ∀ d ∈ tables_1, d.before a0 Z = true) (ws : List Jvm.Cond)  (h0 : Heap) (n0 : Nat) (Z0 : n0 ≤ h0.size) :
    MetFree l (⟨"com/example/feeder/feeder/adapters/FrameFormat", "isConfiguration", "(I)Z"⟩ : MethodName) (head1 (Jvm.Cond.code (⟨"com/example/feeder/feeder/adapters/FrameFormat", "isConfiguration", "(I)Z"⟩ : MethodName) prog_3_method_4_code 1 (some .boolean) :: ws) ({ frames := 0, cells := 0, slots := 0, locals := 0 } : Room)) (fun a U => a = #[(.int 6)] ∧ Z.Warmed39 U.vm ∧ U.heap = h0) (fun _ _ _ _ _ => True) (fun _ U o U' => ∃ v L, o = .returned v ∧ own_Q_isC6 Z  h0 n0 v U'.heap L ∧ FrameEnd U o U' L ({ frames := 0, cells := 0, slots := 0, locals := 0 } : Room).cells ({ frames := 0, cells := 0, slots := 0, locals := 0 } : Room).slots) := by
  refine MetFree.of_bodySF (plainFor_of_name own_pn_com_example_feeder_feeder_adapters_FrameFormat) hisR ?_
  intro p e s m args below meth c s₁ Bd hml0 hP hKq_
  obtain ⟨rfl, hZ, hh⟩ := hP
  have hx := Bd.exec
  have hby := Bd.bytes
  have hml : c.maxLocals = 1 := hml0
  have hown : s.vm.findClass "com/example/feeder/feeder/adapters/FrameFormat" = some m.cls := findClass_of_methodNamed Bd.named
  have hnm := (name_of_methodNamed Bd.named Bd.method).1
  have X0 : Stand p l e ({ frames := 0, cells := 0, slots := 0, locals := 0 } : Room) s m #[(.int 6)] below meth c s₁ [] 0 0 := Stand.of_body Bd
  have e0 : s₁.heap = h0 := by rw [← hh, Bd.state]; rfl
  have N0 := Fr.nil n0
  have pre0 : ∀ t, Steps p.tables e below (s₁.setTop (mkF m 0 #[(oi 6)] [])) t → Steps p.tables e below (s₁.setTop (entryFrame m #[(.int 6)] 1)) t := fun t k => castTop (own_ef_isC6 m (6 : Int32)) k
  refine own_go pre0 ?_
  refine own_abs ?_
  intro Pf hPf
  refine own_go (A := oW p e below s₁ (oF_isC6 m 20 (oi 6) [(.int 0)])) (fun t k => by
    refine XS.iloadN X0.here hx rfl (hb hby o34_0) rfl ?_
    show oW p e below s₁ (oF_isC6 m 1 (oi 6) [(.int 6)]) _
    refine XS.iconst X0.here hx rfl (hb hby o34_1) ?_
    show oW p e below s₁ (oF_isC6 m 2 (oi 6) [(.int 2), (.int 6)]) _
    refine XS.icmpNo X0.here hx rfl (hb hby o34_2) rfl (feq (by decide : ¬ ((6 : Int32) = (2 : Int32)))).1 ?_
    show oW p e below s₁ (oF_isC6 m 5 (oi 6) []) _
    refine XS.iloadN X0.here hx rfl (hb hby o34_5) rfl ?_
    show oW p e below s₁ (oF_isC6 m 6 (oi 6) [(.int 6)]) _
    refine XS.iconst X0.here hx rfl (hb hby o34_6) ?_
    show oW p e below s₁ (oF_isC6 m 7 (oi 6) [(.int 3), (.int 6)]) _
    refine XS.icmpNo X0.here hx rfl (hb hby o34_7) rfl (feq (by decide : ¬ ((6 : Int32) = (3 : Int32)))).1 ?_
    show oW p e below s₁ (oF_isC6 m 10 (oi 6) []) _
    refine XS.iloadN X0.here hx rfl (hb hby o34_10) rfl ?_
    show oW p e below s₁ (oF_isC6 m 11 (oi 6) [(.int 6)]) _
    refine XS.iconst X0.here hx rfl (hb hby o34_11) ?_
    show oW p e below s₁ (oF_isC6 m 12 (oi 6) [(.int 5), (.int 6)]) _
    refine XS.icmpYes X0.here hx rfl (pc0 := 12) (pc' := 19) rfl (hb hby o34_12) rfl (feq (by decide : ¬ ((6 : Int32) = (5 : Int32)))).2 (by decide) (by decide) ?_
    show oW p e below s₁ (oF_isC6 m 19 (oi 6) []) _
    refine XS.iconst X0.here hx rfl (hb hby o34_19) ?_
    exact k) ?_
  obtain ⟨fs, hr, hrun, hended, hW, hsame⟩ := X0.leave (v := some (.int (nar .boolean (0 : Int32)))) (fun h => by rw [Bd.returns] at h; cases h)
  refine ⟨_, _, retN X0 hx (t := .boolean) Bd.returns (by simp) (hb hby o34_20) hr, hPf _ _ ⟨hrun, hended, _, _, rfl, ?_, ⟨_, rfl⟩, hW, hsame.mono (by decide) (by decide)⟩⟩
  show own_Q_isC6 Z  h0 n0 _ s₁.heap _
  rw [e0]
  exact ⟨rfl, N0, rfl⟩
abbrev oF_isC7 (m : MethodId) (pc : Nat) (a0 : Slot) (S : List Value) : JFrame := mkF m pc #[a0] S
theorem own_ef_isC7 (m : MethodId) (x0 : Int32) : entryFrame m #[(.int x0)] 1 = mkF m 0 #[(oi x0)] [] := by first | (simp [entryFrame, mkF, argsToLocals, Value.category]; done) | rfl
def own_Q_isC7 (Z : State)  (h0 : Heap) (n0 : Nat) (v : Option Value) (h : Heap) (L : List Loc) : Prop := v = some (.int 0) ∧ Fr n0 L ∧ h = h0
set_option maxRecDepth 65536 in
set_option maxHeartbeats 40000000 in
theorem own_rm_isC7 (l : Launch) (Z : State) (a0 : Array Value) (hw : ∀ d ∈ tables_1, d.before a0 Z = true) (ws : List Jvm.Cond)  (h0 : Heap) (n0 : Nat) (Z0 : n0 ≤ h0.size) :
    MetFree l (⟨"com/example/feeder/feeder/adapters/FrameFormat", "isConfiguration", "(I)Z"⟩ : MethodName) (head1 (Jvm.Cond.code (⟨"com/example/feeder/feeder/adapters/FrameFormat", "isConfiguration", "(I)Z"⟩ : MethodName) prog_3_method_4_code 1 (some .boolean) :: ws) ({ frames := 0, cells := 0, slots := 0, locals := 0 } : Room)) (fun a U => a = #[(.int 7)] ∧ Z.Warmed39 U.vm ∧ U.heap = h0) (fun _ _ _ _ _ => True) (fun _ U o U' => ∃ v L, o = .returned v ∧ own_Q_isC7 Z  h0 n0 v U'.heap L ∧ FrameEnd U o U' L ({ frames := 0, cells := 0, slots := 0, locals := 0 } : Room).cells ({ frames := 0, cells := 0, slots := 0, locals := 0 } : Room).slots) := by
  refine MetFree.of_bodySF (plainFor_of_name own_pn_com_example_feeder_feeder_adapters_FrameFormat) hisR ?_
  intro p e s m args below meth c s₁ Bd hml0 hP hKq_
  obtain ⟨rfl, hZ, hh⟩ := hP
  have hx := Bd.exec
  have hby := Bd.bytes
  have hml : c.maxLocals = 1 := hml0
  have hown : s.vm.findClass "com/example/feeder/feeder/adapters/FrameFormat" = some m.cls := findClass_of_methodNamed Bd.named
  have hnm := (name_of_methodNamed Bd.named Bd.method).1
  have X0 : Stand p l e ({ frames := 0, cells := 0, slots := 0, locals := 0 } : Room) s m #[(.int 7)] below meth c s₁ [] 0 0 := Stand.of_body Bd
  have e0 : s₁.heap = h0 := by rw [← hh, Bd.state]; rfl
  have N0 := Fr.nil n0
  have pre0 : ∀ t, Steps p.tables e below (s₁.setTop (mkF m 0 #[(oi 7)] [])) t → Steps p.tables e below (s₁.setTop (entryFrame m #[(.int 7)] 1)) t := fun t k => castTop (own_ef_isC7 m (7 : Int32)) k
  refine own_go pre0 ?_
  refine own_abs ?_
  intro Pf hPf
  refine own_go (A := oW p e below s₁ (oF_isC7 m 20 (oi 7) [(.int 0)])) (fun t k => by
    refine XS.iloadN X0.here hx rfl (hb hby o34_0) rfl ?_
    show oW p e below s₁ (oF_isC7 m 1 (oi 7) [(.int 7)]) _
    refine XS.iconst X0.here hx rfl (hb hby o34_1) ?_
    show oW p e below s₁ (oF_isC7 m 2 (oi 7) [(.int 2), (.int 7)]) _
    refine XS.icmpNo X0.here hx rfl (hb hby o34_2) rfl (feq (by decide : ¬ ((7 : Int32) = (2 : Int32)))).1 ?_
    show oW p e below s₁ (oF_isC7 m 5 (oi 7) []) _
    refine XS.iloadN X0.here hx rfl (hb hby o34_5) rfl ?_
    show oW p e below s₁ (oF_isC7 m 6 (oi 7) [(.int 7)]) _
    refine XS.iconst X0.here hx rfl (hb hby o34_6) ?_
    show oW p e below s₁ (oF_isC7 m 7 (oi 7) [(.int 3), (.int 7)]) _
    refine XS.icmpNo X0.here hx rfl (hb hby o34_7) rfl (feq (by decide : ¬ ((7 : Int32) = (3 : Int32)))).1 ?_
    show oW p e below s₁ (oF_isC7 m 10 (oi 7) []) _
    refine XS.iloadN X0.here hx rfl (hb hby o34_10) rfl ?_
    show oW p e below s₁ (oF_isC7 m 11 (oi 7) [(.int 7)]) _
    refine XS.iconst X0.here hx rfl (hb hby o34_11) ?_
    show oW p e below s₁ (oF_isC7 m 12 (oi 7) [(.int 5), (.int 7)]) _
    refine XS.icmpYes X0.here hx rfl (pc0 := 12) (pc' := 19) rfl (hb hby o34_12) rfl (feq (by decide : ¬ ((7 : Int32) = (5 : Int32)))).2 (by decide) (by decide) ?_
    show oW p e below s₁ (oF_isC7 m 19 (oi 7) []) _
    refine XS.iconst X0.here hx rfl (hb hby o34_19) ?_
    exact k) ?_
  obtain ⟨fs, hr, hrun, hended, hW, hsame⟩ := X0.leave (v := some (.int (nar .boolean (0 : Int32)))) (fun h => by rw [Bd.returns] at h; cases h)
  refine ⟨_, _, retN X0 hx (t := .boolean) Bd.returns (by simp) (hb hby o34_20) hr, hPf _ _ ⟨hrun, hended, _, _, rfl, ?_, ⟨_, rfl⟩, hW, hsame.mono (by decide) (by decide)⟩⟩
  show own_Q_isC7 Z  h0 n0 _ s₁.heap _
  rw [e0]
  exact ⟨rfl, N0, rfl⟩
abbrev oF_len6 (m : MethodId) (pc : Nat) (a0 : Slot) (S : List Value) : JFrame := mkF m pc #[a0] S
theorem own_ef_len6 (m : MethodId) (x0 : Addr) : entryFrame m #[(.ref x0)] 1 = mkF m 0 #[(oR x0)] [] := by first | (simp [entryFrame, mkF, argsToLocals, Value.category]; done) | rfl
def own_Q_len6 (Z : State) (ps : Addr) (cz : Int32) (pb : Addr) (kpb : ClassId) (u0 u1 u2 u3 u4 u5 : Int32) (h0 : Heap) (n0 : Nat) (v : Option Value) (h : Heap) (L : List Loc) : Prop := v = some (.int 6) ∧ Fr n0 L ∧ h = h0
set_option maxRecDepth 65536 in
set_option maxHeartbeats 40000000 in
theorem own_rm_len6 (l : Launch) (Z : State) (a0 : Array Value) (hw : ∀ d ∈ tables_1, d.before a0 Z = true) (ws : List Jvm.Cond) (ps : Addr) (cz : Int32) (pb : Addr) (kpb : ClassId) (u0 u1 u2 u3 u4 u5 : Int32) (h0 : Heap) (n0 : Nat) (Z0 : n0 ≤ h0.size) (Sc0 : Sta Z h0 "java/lang/String" "COMPACT_STRINGS" "Z" (.int cz)) (hcz : ¬ cz = (0 : Int32)) (Ex0 : Exa Z h0 ps "java/lang/String") (Fc0 : Fld Z h0 ps "java/lang/String" "coder" "B" (.int 0)) (Fv0 : Fld Z h0 ps "java/lang/String" "value" "[B" (.ref pb)) (Vb0 : Arv Z h0 pb kpb .byte (6 : Int32) [(.int u0), (.int u1), (.int u2), (.int u3), (.int u4), (.int u5)] (.int 0)) :
    MetFree l (⟨"java/lang/String", "length", "()I"⟩ : MethodName) (head1 (Jvm.Cond.code (⟨"java/lang/String", "length", "()I"⟩ : MethodName) jdk_42_method_54_code 1 (some .int) :: ws) ({ frames := 1, cells := 0, slots := 0, locals := 13 } : Room)) (fun a U => a = #[(.ref ps)] ∧ Z.Warmed39 U.vm ∧ U.heap = h0) (fun _ _ _ _ _ => True) (fun _ U o U' => ∃ v L, o = .returned v ∧ own_Q_len6 Z ps cz pb kpb u0 u1 u2 u3 u4 u5 h0 n0 v U'.heap L ∧ FrameEnd U o U' L ({ frames := 1, cells := 0, slots := 0, locals := 13 } : Room).cells ({ frames := 1, cells := 0, slots := 0, locals := 13 } : Room).slots) := by
  refine MetFree.of_bodySF (plainFor_of_name own_pn_java_lang_String) hisR ?_
  intro p e s m args below meth c s₁ Bd hml0 hP hKq_
  obtain ⟨rfl, hZ, hh⟩ := hP
  have hx := Bd.exec
  have hby := Bd.bytes
  have hml : c.maxLocals = 1 := hml0
  have hown : s.vm.findClass "java/lang/String" = some m.cls := findClass_of_methodNamed Bd.named
  have hnm := (name_of_methodNamed Bd.named Bd.method).1
  have ow13 := hw _ (List.mem_of_getElem? (i := 13) rfl)
  have ow15 := hw _ (List.mem_of_getElem? (i := 15) rfl)
  have ow17 := hw _ (List.mem_of_getElem? (i := 17) rfl)
  have ow18 := hw _ (List.mem_of_getElem? (i := 18) rfl)
  have ow19 := hw _ (List.mem_of_getElem? (i := 19) rfl)
  have ow20 := hw _ (List.mem_of_getElem? (i := 20) rfl)
  have ow21 := hw _ (List.mem_of_getElem? (i := 21) rfl)
  have X0 : Stand p l e ({ frames := 1, cells := 0, slots := 0, locals := 13 } : Room) s m #[(.ref ps)] below meth c s₁ [] 0 0 := Stand.of_body Bd
  have e0 : s₁.heap = h0 := by rw [← hh, Bd.state]; rfl
  have N0 := Fr.nil n0
  have pre0 : ∀ t, Steps p.tables e below (s₁.setTop (mkF m 0 #[(oR ps)] [])) t → Steps p.tables e below (s₁.setTop (entryFrame m #[(.ref ps)] 1)) t := fun t k => castTop (own_ef_len6 m ps) k
  refine own_go pre0 ?_
  refine own_abs ?_
  intro Pf hPf
  refine own_go (A := oW p e below s₁ (oF_len6 m 1 (oR ps) [(.ref ps)])) (fun t k => by
    refine XS.aloadN X0.here hx rfl (hb hby o254_0) rfl rfl ?_
    exact k) ?_
  obtain ⟨T1, X1, e1, st1⟩ := getF X0 hx hZ hown (host := "") (Or.inl ow15) Via.refl e0 Fv0 (g := (oF_len6 m 1 (oR ps) [(.ref ps)])) rfl rfl (hb hby o254_1)
  refine own_go st1 ?_
  refine own_go (A := oW p e below T1 (oF_len6 m 6 (oR ps) [(.ref ps), (.int 6)])) (fun t k => by
    refine own_len2 X1 hx hZ e1 Vb0 (g := (oF_len6 m 4 (oR ps) [(.ref pb)])) rfl rfl (hb hby o254_4) _ ?_
    show oW p e below T1 (oF_len6 m 5 (oR ps) [(.int 6)]) _
    refine XS.aloadN X1.here hx rfl (hb hby o254_5) rfl rfl ?_
    exact k) ?_
  obtain ⟨cq2, kq2, q2a, q2b, q2c⟩ := isOf hZ e1 Ex0
  obtain ⟨_, _, ⟨T2, L2, k2, n2⟩, -, X2, ⟨Lc2, hQ2, l2, y2, z2⟩, st2⟩ := X1.virtualBack hx (y := (⟨"java/lang/String", "coder", "()B"⟩ : MethodName)) (z := (⟨"java/lang/String", "coder", "()B"⟩ : MethodName)) hown (mvT hZ ow17) (mvT hZ ow18) (notFace_of_selects (args := #[]) (mvT hZ ow20)) (mvT hZ ow20) (mvT hZ ow19) (by decide) (backOf (W := 1) (own_rm_coder l Z a0 hw [] ps cz h0 n0 Z0 Sc0 hcz Fc0) hZ ow21 ow13 (by decide) (by decide)) q2a q2c (g := (oF_len6 m 6 (oR ps) [(.ref ps), (.int 6)])) rfl (by rw [hml]; rfl) (Steps.refl _) (argsL := []) (rest := [(.int 6)]) (lenOf own_pd_2829B rfl) rfl (by show 2 * 0 + _ ≤ _; exact Nat.le_of_eq rfl) (hb hby o254_6) (fun _ _ => ⟨rfl, e1, (by decide : 0 + 0 ≤ _), (by decide : 0 + 0 ≤ _)⟩)
  dsimp only [Pt.U, Pt.locs, Pt.cells, Pt.slots] at X2 l2 y2 z2 st2 hQ2
  subst l2 y2 z2
  obtain ⟨rfl, N2q, eh2⟩ := hQ2
  have N2 := Fr.app N0 N2q
  refine own_go (fun _ k => st2.trans k) ?_
  refine own_go (A := oW p e below T2 (oF_len6 m 10 (oR ps) [(.int 6)])) (fun t k => by
    refine XS.ishr X2.here hx rfl (hb hby o254_9) rfl ?_
    exact k) ?_
  obtain ⟨fs, hr, hrun, hended, hW, hsame⟩ := X2.leave (v := some (.int 6)) (fun h => by rw [Bd.returns] at h; cases h)
  refine ⟨_, _, retOut X2 hx Bd.returns rfl (Or.inl ⟨rfl, Or.inl rfl, _, rfl⟩) (hb hby o254_10) hr, hPf _ _ ⟨hrun, hended, _, _, rfl, ?_, ⟨_, rfl⟩, hW, hsame.mono (by decide) (by decide)⟩⟩
  show own_Q_len6 Z ps cz pb kpb u0 u1 u2 u3 u4 u5 h0 n0 _ T2.heap _
  rw [eh2]
  exact ⟨rfl, N2, rfl⟩
abbrev oF_chL6 (m : MethodId) (pc : Nat) (a0 a1 : Slot) (S : List Value) : JFrame := mkF m pc #[a0, a1] S
theorem own_ef_chL6 (m : MethodId) (x0 : Addr) (x1 : Int32) : entryFrame m #[(.ref x0), (.int x1)] 2 = mkF m 0 #[(oR x0), (oi x1)] [] := by first | (simp [entryFrame, mkF, argsToLocals, Value.category]; done) | rfl
def own_Q_chL6 (Z : State) (pb : Addr) (fm : Value) (kpb : ClassId) (u0 u1 u2 u3 u4 u5 : Int32) (h0 : Heap) (n0 : Nat) (v : Option Value) (h : Heap) (L : List Loc) : Prop := v = some (.int (own_ch u0)) ∧ Fr n0 L ∧ h = h0
set_option maxRecDepth 65536 in
set_option maxHeartbeats 40000000 in
theorem own_rm_chL6 (l : Launch) (Z : State) (a0 : Array Value) (hw : ∀ d ∈ tables_1, d.before a0 Z = true) (ws : List Jvm.Cond) (pb : Addr) (fm : Value) (kpb : ClassId) (u0 u1 u2 u3 u4 u5 : Int32) (h0 : Heap) (n0 : Nat) (Z0 : n0 ≤ h0.size) (Sf0 : Sta Z h0 "jdk/internal/util/Preconditions" "SIOOBE_FORMATTER" "Ljava/util/function/BiFunction;" fm) (hfm : fm.isRef = true) (hin : ¬ (0 : Int32) < (0 : Int32) ∧ (0 : Int32) < (6 : Int32)) (Vb0 : Arv Z h0 pb kpb .byte (6 : Int32) [(.int u0), (.int u1), (.int u2), (.int u3), (.int u4), (.int u5)] (.int 0)) :
    MetFree l (⟨"java/lang/StringLatin1", "charAt", "([BI)C"⟩ : MethodName) (head1 (Jvm.Cond.code (⟨"java/lang/StringLatin1", "charAt", "([BI)C"⟩ : MethodName) jdk_43_method_2_code 2 (some .char) :: ws) ({ frames := 2, cells := 0, slots := 0, locals := 27 } : Room)) (fun a U => a = #[(.ref pb), (.int 0)] ∧ Z.Warmed39 U.vm ∧ U.heap = h0) (fun _ _ _ _ _ => True) (fun _ U o U' => ∃ v L, o = .returned v ∧ own_Q_chL6 Z pb fm kpb u0 u1 u2 u3 u4 u5 h0 n0 v U'.heap L ∧ FrameEnd U o U' L ({ frames := 2, cells := 0, slots := 0, locals := 27 } : Room).cells ({ frames := 2, cells := 0, slots := 0, locals := 27 } : Room).slots) := by
  refine MetFree.of_bodySF (plainFor_of_name own_pn_java_lang_StringLatin1) hisR ?_
  intro p e s m args below meth c s₁ Bd hml0 hP hKq_
  obtain ⟨rfl, hZ, hh⟩ := hP
  have hx := Bd.exec
  have hby := Bd.bytes
  have hml : c.maxLocals = 2 := hml0
  have hown : s.vm.findClass "java/lang/StringLatin1" = some m.cls := findClass_of_methodNamed Bd.named
  have hnm := (name_of_methodNamed Bd.named Bd.method).1
  have ow13 := hw _ (List.mem_of_getElem? (i := 13) rfl)
  have ow39 := hw _ (List.mem_of_getElem? (i := 39) rfl)
  have ow40 := hw _ (List.mem_of_getElem? (i := 40) rfl)
  have ow41 := hw _ (List.mem_of_getElem? (i := 41) rfl)
  have X0 : Stand p l e ({ frames := 2, cells := 0, slots := 0, locals := 27 } : Room) s m #[(.ref pb), (.int 0)] below meth c s₁ [] 0 0 := Stand.of_body Bd
  have e0 : s₁.heap = h0 := by rw [← hh, Bd.state]; rfl
  have N0 := Fr.nil n0
  have pre0 : ∀ t, Steps p.tables e below (s₁.setTop (mkF m 0 #[(oR pb), (oi 0)] [])) t → Steps p.tables e below (s₁.setTop (entryFrame m #[(.ref pb), (.int 0)] 2)) t := fun t k => castTop (own_ef_chL6 m pb (0 : Int32)) k
  refine own_go pre0 ?_
  refine own_abs ?_
  intro Pf hPf
  refine own_go (A := oW p e below s₁ (oF_chL6 m 3 (oR pb) (oi 0) [(.int 6), (.int 0)])) (fun t k => by
    refine XS.iloadN X0.here hx rfl (hb hby o432_0) rfl ?_
    show oW p e below s₁ (oF_chL6 m 1 (oR pb) (oi 0) [(.int 0)]) _
    refine XS.aloadN X0.here hx rfl (hb hby o432_1) rfl rfl ?_
    show oW p e below s₁ (oF_chL6 m 2 (oR pb) (oi 0) [(.ref pb), (.int 0)]) _
    refine own_len2 X0 hx hZ e0 Vb0 (g := (oF_chL6 m 2 (oR pb) (oi 0) [(.ref pb), (.int 0)])) rfl rfl (hb hby o432_2) _ ?_
    exact k) ?_
  obtain ⟨_, _, ⟨T1, L1, k1, n1⟩, -, X1, ⟨Lc1, hQ1, l1, y1, z1⟩, st1⟩ := Jvm.LawKit.callS X0 hx (y := (⟨"java/lang/String", "checkIndex", "(II)V"⟩ : MethodName)) hown (mvT hZ ow39) (mvT hZ ow40) (mvT hZ ow13) (mvT hZ ow41) (by decide) (backOf (W := 0) (own_rm_chkS l Z a0 hw [] (0 : Int32) (6 : Int32) fm h0 n0 Z0 Sf0 hfm hin) hZ ow41 ow13 (by decide) (by decide)) (g := (oF_chL6 m 3 (oR pb) (oi 0) [(.int 6), (.int 0)])) rfl (by rw [hml]; rfl) (argsL := [(.int 0), (.int 6)]) (rest := []) (lenOf own_pd_28II29V rfl) rfl (by show 2 * 0 + _ ≤ _; exact Nat.le_of_eq rfl) (hb hby o432_3) (fun _ _ => ⟨rfl, e0, (by decide : 0 + 0 ≤ _), (by decide : 0 + 0 ≤ _)⟩)
  dsimp only [Pt.U, Pt.locs, Pt.cells, Pt.slots] at X1 l1 y1 z1 st1 hQ1
  subst l1 y1 z1
  obtain ⟨rfl, N1q, eh1⟩ := hQ1
  have N1 := Fr.app N0 N1q
  refine own_go st1 ?_
  refine own_go (A := oW p e below T1 (oF_chL6 m 8 (oR pb) (oi 0) [(.int 0), (.ref pb)])) (fun t k => by
    refine XS.aloadN X1.here hx rfl (hb hby o432_6) rfl rfl ?_
    show oW p e below T1 (oF_chL6 m 7 (oR pb) (oi 0) [(.ref pb)]) _
    refine XS.iloadN X1.here hx rfl (hb hby o432_7) rfl ?_
    exact k) ?_
  obtain ⟨cl2, Ar2, -, S2, -, H2, -⟩ := id (Vb0)
  have hi2 : ¬ ((0 : Int32) < 0 ∨ cl2.slots.size ≤ ((0 : Int32)).toNatClampNeg) := inb_of S2 ⟨by decide, by decide⟩
  have hv2 : cl2.slots[((0 : Int32)).toNatClampNeg]? = some (.int u0) := H2.at hi2 rfl
  refine own_go (A := oW p e below T1 (oF_chL6 m 14 (oR pb) (oi 0) [(.int (u0 &&& (255 : Int32)).toUInt32.toUInt16.toUInt32.toInt32)])) (fun t k => by
    refine X1.baloadBytes hx (j := (0 : Int32)) (v := (.int u0)) (by rw [eh1]; exact Ar2.1) (State.isArrayOf_alike hZ.alike Ar2.2.1) Ar2.2.2 hi2 hv2 (g := (oF_chL6 m 8 (oR pb) (oi 0) [(.int 0), (.ref pb)])) rfl rfl (hb hby o432_8) _ ?_
    show oW p e below T1 (oF_chL6 m 9 (oR pb) (oi 0) [(.int u0)]) _
    refine XS.sipush X1.here hx rfl (hb hby o432_9) ?_
    show oW p e below T1 (oF_chL6 m 12 (oR pb) (oi 0) [(.int 255), (.int u0)]) _
    refine XS.iand X1.here hx rfl (hb hby o432_12) rfl ?_
    show oW p e below T1 (oF_chL6 m 13 (oR pb) (oi 0) [(.int (u0 &&& (255 : Int32)))]) _
    refine XS.i2c X1.here hx rfl (hb hby o432_13) rfl ?_
    exact k) ?_
  obtain ⟨fs, hr, hrun, hended, hW, hsame⟩ := X1.leave (v := some (.int (nar .char (u0 &&& (255 : Int32)).toUInt32.toUInt16.toUInt32.toInt32))) (fun h => by rw [Bd.returns] at h; cases h)
  refine ⟨_, _, retN X1 hx (t := .char) Bd.returns (by simp) (hb hby o432_14) hr, hPf _ _ ⟨hrun, hended, _, _, rfl, ?_, ⟨_, rfl⟩, hW, hsame.mono (by decide) (by decide)⟩⟩
  show own_Q_chL6 Z pb fm kpb u0 u1 u2 u3 u4 u5 h0 n0 _ T1.heap _
  rw [eh1]
  exact ⟨rfl, N1, rfl⟩
abbrev oF_chA6 (m : MethodId) (pc : Nat) (a0 a1 : Slot) (S : List Value) : JFrame := mkF m pc #[a0, a1] S
theorem own_ef_chA6 (m : MethodId) (x0 : Addr) (x1 : Int32) : entryFrame m #[(.ref x0), (.int x1)] 2 = mkF m 0 #[(oR x0), (oi x1)] [] := by first | (simp [entryFrame, mkF, argsToLocals, Value.category]; done) | rfl
def own_Q_chA6 (Z : State) (ps : Addr) (cz : Int32) (fm : Value) (pb : Addr) (kpb : ClassId) (u0 u1 u2 u3 u4 u5 : Int32) (h0 : Heap) (n0 : Nat) (v : Option Value) (h : Heap) (L : List Loc) : Prop := v = some (.int (own_ch u0)) ∧ Fr n0 L ∧ h = h0
set_option maxRecDepth 65536 in
set_option maxHeartbeats 40000000 in
theorem own_rm_chA6 (l : Launch) (Z : State) (a0 : Array Value) (hw : ∀ d ∈ tables_1, d.before a0 Z = true) (ws : List Jvm.Cond) (ps : Addr) (cz : Int32) (fm : Value) (pb : Addr) (kpb : ClassId) (u0 u1 u2 u3 u4 u5 : Int32) (h0 : Heap) (n0 : Nat) (Z0 : n0 ≤ h0.size) (Sc0 : Sta Z h0 "java/lang/String" "COMPACT_STRINGS" "Z" (.int cz)) (hcz : ¬ cz = (0 : Int32)) (Sf0 : Sta Z h0 "jdk/internal/util/Preconditions" "SIOOBE_FORMATTER" "Ljava/util/function/BiFunction;" fm) (hfm : fm.isRef = true) (Ex0 : Exa Z h0 ps "java/lang/String") (Fc0 : Fld Z h0 ps "java/lang/String" "coder" "B" (.int 0)) (Fv0 : Fld Z h0 ps "java/lang/String" "value" "[B" (.ref pb)) (Vb0 : Arv Z h0 pb kpb .byte (6 : Int32) [(.int u0), (.int u1), (.int u2), (.int u3), (.int u4), (.int u5)] (.int 0)) :
    MetFree l (⟨"java/lang/String", "charAt", "(I)C"⟩ : MethodName) (head1 (Jvm.Cond.code (⟨"java/lang/String", "charAt", "(I)C"⟩ : MethodName) jdk_42_method_56_code 2 (some .char) :: ws) ({ frames := 3, cells := 0, slots := 0, locals := 40 } : Room)) (fun a U => a = #[(.ref ps), (.int 0)] ∧ Z.Warmed39 U.vm ∧ U.heap = h0) (fun _ _ _ _ _ => True) (fun _ U o U' => ∃ v L, o = .returned v ∧ own_Q_chA6 Z ps cz fm pb kpb u0 u1 u2 u3 u4 u5 h0 n0 v U'.heap L ∧ FrameEnd U o U' L ({ frames := 3, cells := 0, slots := 0, locals := 40 } : Room).cells ({ frames := 3, cells := 0, slots := 0, locals := 40 } : Room).slots) := by
  refine MetFree.of_bodySF (plainFor_of_name own_pn_java_lang_String) hisR ?_
  intro p e s m args below meth c s₁ Bd hml0 hP hKq_
  obtain ⟨rfl, hZ, hh⟩ := hP
  have hx := Bd.exec
  have hby := Bd.bytes
  have hml : c.maxLocals = 2 := hml0
  have hown : s.vm.findClass "java/lang/String" = some m.cls := findClass_of_methodNamed Bd.named
  have hnm := (name_of_methodNamed Bd.named Bd.method).1
  have ow13 := hw _ (List.mem_of_getElem? (i := 13) rfl)
  have ow15 := hw _ (List.mem_of_getElem? (i := 15) rfl)
  have ow30 := hw _ (List.mem_of_getElem? (i := 30) rfl)
  have ow31 := hw _ (List.mem_of_getElem? (i := 31) rfl)
  have ow32 := hw _ (List.mem_of_getElem? (i := 32) rfl)
  have ow33 := hw _ (List.mem_of_getElem? (i := 33) rfl)
  have ow34 := hw _ (List.mem_of_getElem? (i := 34) rfl)
  have ow35 := hw _ (List.mem_of_getElem? (i := 35) rfl)
  have ow36 := hw _ (List.mem_of_getElem? (i := 36) rfl)
  have ow37 := hw _ (List.mem_of_getElem? (i := 37) rfl)
  have ow38 := hw _ (List.mem_of_getElem? (i := 38) rfl)
  have X0 : Stand p l e ({ frames := 3, cells := 0, slots := 0, locals := 40 } : Room) s m #[(.ref ps), (.int 0)] below meth c s₁ [] 0 0 := Stand.of_body Bd
  have e0 : s₁.heap = h0 := by rw [← hh, Bd.state]; rfl
  have N0 := Fr.nil n0
  have pre0 : ∀ t, Steps p.tables e below (s₁.setTop (mkF m 0 #[(oR ps), (oi 0)] [])) t → Steps p.tables e below (s₁.setTop (entryFrame m #[(.ref ps), (.int 0)] 2)) t := fun t k => castTop (own_ef_chA6 m ps (0 : Int32)) k
  refine own_go pre0 ?_
  refine own_abs ?_
  intro Pf hPf
  refine own_go (A := oW p e below s₁ (oF_chA6 m 1 (oR ps) (oi 0) [(.ref ps)])) (fun t k => by
    refine XS.aloadN X0.here hx rfl (hb hby o256_0) rfl rfl ?_
    exact k) ?_
  obtain ⟨cq1, kq1, q1a, q1b, q1c⟩ := isOf hZ e0 Ex0
  obtain ⟨_, _, ⟨T1, L1, k1, n1⟩, -, X1, ⟨Lc1, hQ1, l1, y1, z1⟩, st1⟩ := X0.virtualBack hx (y := (⟨"java/lang/String", "isLatin1", "()Z"⟩ : MethodName)) (z := (⟨"java/lang/String", "isLatin1", "()Z"⟩ : MethodName)) hown (mvT hZ ow30) (mvT hZ ow31) (notFace_of_selects (args := #[]) (mvT hZ ow33)) (mvT hZ ow33) (mvT hZ ow32) (by decide) (backOf (W := 0) (own_rm_isLatin1 l Z a0 hw [] ps cz h0 n0 Z0 Sc0 hcz Fc0) hZ ow34 ow13 (by decide) (by decide)) q1a q1c (g := (oF_chA6 m 1 (oR ps) (oi 0) [(.ref ps)])) rfl (by rw [hml]; rfl) (Steps.refl _) (argsL := []) (rest := []) (lenOf own_pd_2829Z rfl) rfl (by show 2 * 0 + _ ≤ _; exact Nat.le_of_eq rfl) (hb hby o256_1) (fun _ _ => ⟨rfl, e0, (by decide : 0 + 0 ≤ _), (by decide : 0 + 0 ≤ _)⟩)
  dsimp only [Pt.U, Pt.locs, Pt.cells, Pt.slots] at X1 l1 y1 z1 st1 hQ1
  subst l1 y1 z1
  obtain ⟨rfl, N1q, eh1⟩ := hQ1
  have N1 := Fr.app N0 N1q
  refine own_go (fun _ k => st1.trans k) ?_
  refine own_go (A := oW p e below T1 (oF_chA6 m 8 (oR ps) (oi 0) [(.ref ps)])) (fun t k => by
    refine XS.ifNo X1.here hx rfl (hb hby o256_4) rfl ((if0 _ _).trans (feq (by decide : ¬ ((1 : Int32) = (0 : Int32)))).1) ?_
    show oW p e below T1 (oF_chA6 m 7 (oR ps) (oi 0) []) _
    refine XS.aloadN X1.here hx rfl (hb hby o256_7) rfl rfl ?_
    exact k) ?_
  obtain ⟨T2, X2, e2, st2⟩ := getF X1 hx hZ hown (host := "") (Or.inl ow15) Via.refl eh1 Fv0 (g := (oF_chA6 m 8 (oR ps) (oi 0) [(.ref ps)])) rfl rfl (hb hby o256_8)
  refine own_go st2 ?_
  refine own_go (A := oW p e below T2 (oF_chA6 m 12 (oR ps) (oi 0) [(.int 0), (.ref pb)])) (fun t k => by
    refine XS.iloadN X2.here hx rfl (hb hby o256_11) rfl ?_
    exact k) ?_
  obtain ⟨_, _, ⟨T3, L3, k3, n3⟩, -, X3, ⟨Lc3, hQ3, l3, y3, z3⟩, st3⟩ := Jvm.LawKit.callS X2 hx (y := (⟨"java/lang/StringLatin1", "charAt", "([BI)C"⟩ : MethodName)) hown (mvT hZ ow35) (mvT hZ ow36) (mvT hZ ow37) (mvT hZ ow38) (by decide) (backOf (W := 0) (own_rm_chL6 l Z a0 hw [] pb fm kpb u0 u1 u2 u3 u4 u5 h0 n0 Z0 Sf0 hfm ⟨by decide, by decide⟩ Vb0) hZ ow38 ow37 (by decide) (by decide)) (g := (oF_chA6 m 12 (oR ps) (oi 0) [(.int 0), (.ref pb)])) rfl (by rw [hml]; rfl) (argsL := [(.ref pb), (.int 0)]) (rest := []) (lenOf own_pd_285bBI29C rfl) rfl (by show 2 * 0 + _ ≤ _; exact Nat.le_of_eq rfl) (hb hby o256_12) (fun _ _ => ⟨rfl, e2, (by decide : 0 + 0 ≤ _), (by decide : 0 + 0 ≤ _)⟩)
  dsimp only [Pt.U, Pt.locs, Pt.cells, Pt.slots] at X3 l3 y3 z3 st3 hQ3
  subst l3 y3 z3
  obtain ⟨rfl, N3q, eh3⟩ := hQ3
  have N3 := Fr.app N1 N3q
  refine own_go st3 ?_
  obtain ⟨fs, hr, hrun, hended, hW, hsame⟩ := X3.leave (v := some (.int (nar .char (own_ch u0)))) (fun h => by rw [Bd.returns] at h; cases h)
  refine ⟨_, _, retN X3 hx (t := .char) Bd.returns (by simp) (hb hby o256_15) hr, hPf _ _ ⟨hrun, hended, _, _, rfl, ?_, ⟨_, rfl⟩, hW, hsame.mono (by decide) (by decide)⟩⟩
  show own_Q_chA6 Z ps cz fm pb kpb u0 u1 u2 u3 u4 u5 h0 n0 _ T3.heap _
  rw [eh3]
  exact ⟨by rw [own_chc], N3, rfl⟩
theorem own_ldO {p : Program} {l : Launch} {e : Env} {R : Room} {s : State} {m : MethodId} {args : Array Value} {below : List Frame} {meth : Method} {c : Code} {T : State} {locs : List Loc} {cells slots : Nat} {Z : State} {h : Heap} {a : Addr} {k : ClassId} {z : Int32} {vs : List Value} {dv : Value} {ty : String} (X : Stand p l e R s m args below meth c T locs cells slots) (hx : p.tables.exec = Jvm.exec) (hZ : Z.Warmed39 s.vm) (eT : T.heap = h) (F : Arv Z h a k (.object ty) z vs dv) {j : Int32} {v : Value} (hb : ¬ j < 0 ∧ j < z) (hv : vs.getD j.toNatClampNeg dv = v) {g : JFrame} (hg : g.method = m) {rest : List Value} (hs : g.stack = .int j :: .ref a :: rest) (hd : decode c.code g.pc = .ok (.aaload, 1)) (target : State)
    (hr : Steps p.tables e below (T.setTop { g with pc := g.pc + 1, stack := v :: rest }) target) : Steps p.tables e below (T.setTop g) target := by
  obtain ⟨cl, A, -, S, -, H, -⟩ := F
  have hi := inb_of S hb
  exact X.aaload hx (by rw [eT]; exact A.1) (State.isArrayOf_alike hZ.alike A.2.1) rfl A.2.2 hi (H.at hi hv) hg hs hd target hr
theorem own_stakE {Z : State} {h h' : Heap} {C n d : String} {v : Value} {ws : List Addr} (F : Sta Z h C n d v) (K : Keep h h' ws) (A : ∀ x ∈ ws, ∀ cell : Cell, h[x]? = some cell → cell.vm.isStatics = false) : Sta Z h' C n d v := by
  obtain ⟨cf, i, kk, f, st, cell, h1, h2, h3, h4, h5, h6, h7⟩ := F
  refine ⟨cf, i, kk, f, st, cell, h1, h2, h3, h4, K.2.1 st cell h5 (fun q => ?_), h6, h7⟩
  have t := A st q cell h5
  rw [h6] at t; cases t
theorem own_nsE {Z : State} {h : Heap} {a : Addr} {C : String} (E : Exa Z h a C) : ∀ cell : Cell, h[a]? = some cell → cell.vm.isStatics = false := fun cell q => by
  obtain ⟨c1, k, h1, -, -, h4, -⟩ := E; cases h1.symm.trans q; exact h4
theorem own_nsV {Z : State} {h : Heap} {a : Addr} {k : ClassId} {ty : FieldType} {z : Int32} {vs : List Value} {d : Value} (A : Arv Z h a k ty z vs d) : ∀ cell : Cell, h[a]? = some cell → cell.vm.isStatics = false := fun cell q => by
  obtain ⟨cl, A1, -⟩ := A; cases A1.1.symm.trans q; exact A1.plain
theorem own_tabk {Z : State} {h h' : Heap} {a : Addr} {cl : Cell} {ty : FieldType} {z : Int32} {ws : List Addr} (F : Tab Z h a cl ty z) (K : Keep h h' ws) (q : a ∉ ws) : Tab Z h' a cl ty z := ⟨⟨K.2.1 _ _ F.1.1 q, F.1.2⟩, F.2⟩
theorem own_sa {a0 : Array Value} {Z : State} (hw : ∀ d ∈ tables_1, d.before a0 Z = true) : ∀ a ∈ Bundle.stringAtoms, a.before a0 Z = true := fun d hd => by
  simp only [Bundle.stringAtoms, List.mem_cons, List.not_mem_nil, or_false] at hd
  rcases hd with rfl | rfl | rfl | rfl | rfl | rfl | rfl
  · exact (hw _ (List.mem_of_getElem? (i := 13) rfl))
  · exact (hw _ (List.mem_of_getElem? (i := 69) rfl))
  · exact (hw _ (List.mem_of_getElem? (i := 63) rfl))
  · exact (hw _ (List.mem_of_getElem? (i := 16) rfl))
  · exact (hw _ (List.mem_of_getElem? (i := 24) rfl))
  · exact (hw _ (List.mem_of_getElem? (i := 70) rfl))
  · exact (hw _ (List.mem_of_getElem? (i := 71) rfl))
theorem own_EW {a0 : Array Value} {Z : State} (hw : ∀ d ∈ tables_1, d.before a0 Z = true) : EW Z a0 consts_1 := EW.cons (text := "type ") (hw _ (List.mem_of_getElem? (i := 68) rfl)) (by decide) EW.nil
abbrev oF_tyN0 (m : MethodId) (pc : Nat) (a0 : Slot) (S : List Value) : JFrame := mkF m pc #[a0] S
theorem o35_0 : decode prog_3_method_5_code 0 = .ok (.iload_n 0, 1) := by decide +kernel
theorem o35_1 : decode prog_3_method_5_code 1 = .ok (.getstatic 54, 3) := by decide +kernel
theorem o35_4 : decode prog_3_method_5_code 4 = .ok (.arraylength, 1) := by decide +kernel
theorem o35_5 : decode prog_3_method_5_code 5 = .ok (.if_icmp .ge 11, 3) := by decide +kernel
theorem o35_8 : decode prog_3_method_5_code 8 = .ok (.getstatic 54, 3) := by decide +kernel
theorem o35_11 : decode prog_3_method_5_code 11 = .ok (.iload_n 0, 1) := by decide +kernel
theorem o35_12 : decode prog_3_method_5_code 12 = .ok (.aaload, 1) := by decide +kernel
theorem o35_13 : decode prog_3_method_5_code 13 = .ok (.goto 22, 3) := by decide +kernel
theorem o35_35 : decode prog_3_method_5_code 35 = .ok (.areturn, 1) := by decide +kernel
theorem own_ef_tyN0 (m : MethodId) (x0 : Int32) : entryFrame m #[(.int x0)] 1 = mkF m 0 #[(oi x0)] [] := by first | (simp [entryFrame, mkF, argsToLocals, Value.category]; done) | rfl
def own_Q_tyN0 (Z : State) (tn : Addr) (ktn : ClassId) (s0n s1n s2n s3n s4n s5n : Addr) (h0 : Heap) (n0 : Nat) (v : Option Value) (h : Heap) (L : List Loc) : Prop := v = some (.ref s0n) ∧ Fr n0 L ∧ h = h0
set_option maxRecDepth 65536 in
set_option maxHeartbeats 40000000 in
theorem own_rm_tyN0 (l : Launch) (Z : State) (a0 : Array Value) (hw : ∀ d ∈ tables_1, d.before a0 Z = true) (ws : List Jvm.Cond) (tn : Addr) (ktn : ClassId) (s0n s1n s2n s3n s4n s5n : Addr) (h0 : Heap) (n0 : Nat) (Z0 : n0 ≤ h0.size) (St0 : Sta Z h0 "com/example/feeder/feeder/adapters/FrameFormat" "TYPE_NAMES" "[Ljava/lang/String;" (.ref tn)) (Vt0 : Arv Z h0 tn ktn (.object "java/lang/String") (6 : Int32) [(.ref s0n), (.ref s1n), (.ref s2n), (.ref s3n), (.ref s4n), (.ref s5n)] .null) :
    MetFree l (⟨"com/example/feeder/feeder/adapters/FrameFormat", "typeName", "(I)Ljava/lang/String;"⟩ : MethodName) (head1 (Jvm.Cond.code (⟨"com/example/feeder/feeder/adapters/FrameFormat", "typeName", "(I)Ljava/lang/String;"⟩ : MethodName) prog_3_method_5_code 1 (some (.object "java/lang/String")) :: ws) ({ frames := 0, cells := 0, slots := 0, locals := 0 } : Room)) (fun a U => a = #[(.int 0)] ∧ Z.Warmed39 U.vm ∧ U.heap = h0) (fun _ _ _ _ _ => True) (fun _ U o U' => ∃ v L, o = .returned v ∧ own_Q_tyN0 Z tn ktn s0n s1n s2n s3n s4n s5n h0 n0 v U'.heap L ∧ FrameEnd U o U' L ({ frames := 0, cells := 0, slots := 0, locals := 0 } : Room).cells ({ frames := 0, cells := 0, slots := 0, locals := 0 } : Room).slots) := by
  refine MetFree.of_bodySF (plainFor_of_name own_pn_com_example_feeder_feeder_adapters_FrameFormat) hisR ?_
  intro p e s m args below meth c s₁ Bd hml0 hP hKq_
  obtain ⟨rfl, hZ, hh⟩ := hP
  have hx := Bd.exec
  have hby := Bd.bytes
  have hml : c.maxLocals = 1 := hml0
  have hown : s.vm.findClass "com/example/feeder/feeder/adapters/FrameFormat" = some m.cls := findClass_of_methodNamed Bd.named
  have hnm := (name_of_methodNamed Bd.named Bd.method).1
  have ow7 := hw _ (List.mem_of_getElem? (i := 7) rfl)
  have X0 : Stand p l e ({ frames := 0, cells := 0, slots := 0, locals := 0 } : Room) s m #[(.int 0)] below meth c s₁ [] 0 0 := Stand.of_body Bd
  have e0 : s₁.heap = h0 := by rw [← hh, Bd.state]; rfl
  have N0 := Fr.nil n0
  have pre0 : ∀ t, Steps p.tables e below (s₁.setTop (mkF m 0 #[(oi 0)] [])) t → Steps p.tables e below (s₁.setTop (entryFrame m #[(.int 0)] 1)) t := fun t k => castTop (own_ef_tyN0 m (0 : Int32)) k
  refine own_go pre0 ?_
  refine own_abs ?_
  intro Pf hPf
  refine own_go (A := oW p e below s₁ (oF_tyN0 m 1 (oi 0) [(.int 0)])) (fun t k => by
    refine XS.iloadN X0.here hx rfl (hb hby o35_0) rfl ?_
    exact k) ?_
  obtain ⟨T1, X1, e1, st1⟩ := getS2 X0 hx hZ hown (host := "") (Or.inl ow7) Via.refl e0 St0 (g := (oF_tyN0 m 1 (oi 0) [(.int 0)])) rfl (hb hby o35_1)
  refine own_go st1 ?_
  refine own_go (A := oW p e below T1 (oF_tyN0 m 8 (oi 0) [])) (fun t k => by
    refine own_len2 X1 hx hZ e1 Vt0 (g := (oF_tyN0 m 4 (oi 0) [(.ref tn), (.int 0)])) rfl rfl (hb hby o35_4) _ ?_
    show oW p e below T1 (oF_tyN0 m 5 (oi 0) [(.int 6), (.int 0)]) _
    refine XS.icmpNo X1.here hx rfl (hb hby o35_5) rfl (tlt (by decide : (0 : Int32) < (6 : Int32))).2.1 ?_
    exact k) ?_
  obtain ⟨T2, X2, e2, st2⟩ := getS2 X1 hx hZ hown (host := "") (Or.inl ow7) Via.refl e1 St0 (g := (oF_tyN0 m 8 (oi 0) [])) rfl (hb hby o35_8)
  refine own_go st2 ?_
  refine own_go (A := oW p e below T2 (oF_tyN0 m 35 (oi 0) [(.ref s0n)])) (fun t k => by
    refine XS.iloadN X2.here hx rfl (hb hby o35_11) rfl ?_
    show oW p e below T2 (oF_tyN0 m 12 (oi 0) [(.int 0), (.ref tn)]) _
    refine own_ldO X2 hx hZ e2 Vt0 ⟨by decide, by decide⟩ (v := (.ref s0n)) rfl (g := (oF_tyN0 m 12 (oi 0) [(.int 0), (.ref tn)])) rfl rfl (hb hby o35_12) _ ?_
    show oW p e below T2 (oF_tyN0 m 13 (oi 0) [(.ref s0n)]) _
    refine XS.goto X2.here hx rfl (pc0 := 13) (pc' := 35) rfl (hb hby o35_13) (by decide) (by decide) ?_
    exact k) ?_
  obtain ⟨fs, hr, hrun, hended, hW, hsame⟩ := X2.leave (v := some (.ref s0n)) (fun h => by rw [Bd.returns] at h; cases h)
  refine ⟨_, _, retOut X2 hx Bd.returns rfl (Or.inr (Or.inr (Or.inr (Or.inr ⟨rfl, rfl, rfl⟩)))) (hb hby o35_35) hr, hPf _ _ ⟨hrun, hended, _, _, rfl, ?_, ⟨_, rfl⟩, hW, hsame.mono (by decide) (by decide)⟩⟩
  show own_Q_tyN0 Z tn ktn s0n s1n s2n s3n s4n s5n h0 n0 _ T2.heap _
  rw [e2]
  exact ⟨rfl, N0, rfl⟩
abbrev oF_tyN1 (m : MethodId) (pc : Nat) (a0 : Slot) (S : List Value) : JFrame := mkF m pc #[a0] S
theorem own_ef_tyN1 (m : MethodId) (x0 : Int32) : entryFrame m #[(.int x0)] 1 = mkF m 0 #[(oi x0)] [] := by first | (simp [entryFrame, mkF, argsToLocals, Value.category]; done) | rfl
def own_Q_tyN1 (Z : State) (tn : Addr) (ktn : ClassId) (s0n s1n s2n s3n s4n s5n : Addr) (h0 : Heap) (n0 : Nat) (v : Option Value) (h : Heap) (L : List Loc) : Prop := v = some (.ref s1n) ∧ Fr n0 L ∧ h = h0
set_option maxRecDepth 65536 in
set_option maxHeartbeats 40000000 in
theorem own_rm_tyN1 (l : Launch) (Z : State) (a0 : Array Value) (hw : ∀ d ∈ tables_1, d.before a0 Z = true) (ws : List Jvm.Cond) (tn : Addr) (ktn : ClassId) (s0n s1n s2n s3n s4n s5n : Addr) (h0 : Heap) (n0 : Nat) (Z0 : n0 ≤ h0.size) (St0 : Sta Z h0 "com/example/feeder/feeder/adapters/FrameFormat" "TYPE_NAMES" "[Ljava/lang/String;" (.ref tn)) (Vt0 : Arv Z h0 tn ktn (.object "java/lang/String") (6 : Int32) [(.ref s0n), (.ref s1n), (.ref s2n), (.ref s3n), (.ref s4n), (.ref s5n)] .null) :
    MetFree l (⟨"com/example/feeder/feeder/adapters/FrameFormat", "typeName", "(I)Ljava/lang/String;"⟩ : MethodName) (head1 (Jvm.Cond.code (⟨"com/example/feeder/feeder/adapters/FrameFormat", "typeName", "(I)Ljava/lang/String;"⟩ : MethodName) prog_3_method_5_code 1 (some (.object "java/lang/String")) :: ws) ({ frames := 0, cells := 0, slots := 0, locals := 0 } : Room)) (fun a U => a = #[(.int 1)] ∧ Z.Warmed39 U.vm ∧ U.heap = h0) (fun _ _ _ _ _ => True) (fun _ U o U' => ∃ v L, o = .returned v ∧ own_Q_tyN1 Z tn ktn s0n s1n s2n s3n s4n s5n h0 n0 v U'.heap L ∧ FrameEnd U o U' L ({ frames := 0, cells := 0, slots := 0, locals := 0 } : Room).cells ({ frames := 0, cells := 0, slots := 0, locals := 0 } : Room).slots) := by
  refine MetFree.of_bodySF (plainFor_of_name own_pn_com_example_feeder_feeder_adapters_FrameFormat) hisR ?_
  intro p e s m args below meth c s₁ Bd hml0 hP hKq_
  obtain ⟨rfl, hZ, hh⟩ := hP
  have hx := Bd.exec
  have hby := Bd.bytes
  have hml : c.maxLocals = 1 := hml0
  have hown : s.vm.findClass "com/example/feeder/feeder/adapters/FrameFormat" = some m.cls := findClass_of_methodNamed Bd.named
  have hnm := (name_of_methodNamed Bd.named Bd.method).1
  have ow7 := hw _ (List.mem_of_getElem? (i := 7) rfl)
  have X0 : Stand p l e ({ frames := 0, cells := 0, slots := 0, locals := 0 } : Room) s m #[(.int 1)] below meth c s₁ [] 0 0 := Stand.of_body Bd
  have e0 : s₁.heap = h0 := by rw [← hh, Bd.state]; rfl
  have N0 := Fr.nil n0
  have pre0 : ∀ t, Steps p.tables e below (s₁.setTop (mkF m 0 #[(oi 1)] [])) t → Steps p.tables e below (s₁.setTop (entryFrame m #[(.int 1)] 1)) t := fun t k => castTop (own_ef_tyN1 m (1 : Int32)) k
  refine own_go pre0 ?_
  refine own_abs ?_
  intro Pf hPf
  refine own_go (A := oW p e below s₁ (oF_tyN1 m 1 (oi 1) [(.int 1)])) (fun t k => by
    refine XS.iloadN X0.here hx rfl (hb hby o35_0) rfl ?_
    exact k) ?_
  obtain ⟨T1, X1, e1, st1⟩ := getS2 X0 hx hZ hown (host := "") (Or.inl ow7) Via.refl e0 St0 (g := (oF_tyN1 m 1 (oi 1) [(.int 1)])) rfl (hb hby o35_1)
  refine own_go st1 ?_
  refine own_go (A := oW p e below T1 (oF_tyN1 m 8 (oi 1) [])) (fun t k => by
    refine own_len2 X1 hx hZ e1 Vt0 (g := (oF_tyN1 m 4 (oi 1) [(.ref tn), (.int 1)])) rfl rfl (hb hby o35_4) _ ?_
    show oW p e below T1 (oF_tyN1 m 5 (oi 1) [(.int 6), (.int 1)]) _
    refine XS.icmpNo X1.here hx rfl (hb hby o35_5) rfl (tlt (by decide : (1 : Int32) < (6 : Int32))).2.1 ?_
    exact k) ?_
  obtain ⟨T2, X2, e2, st2⟩ := getS2 X1 hx hZ hown (host := "") (Or.inl ow7) Via.refl e1 St0 (g := (oF_tyN1 m 8 (oi 1) [])) rfl (hb hby o35_8)
  refine own_go st2 ?_
  refine own_go (A := oW p e below T2 (oF_tyN1 m 35 (oi 1) [(.ref s1n)])) (fun t k => by
    refine XS.iloadN X2.here hx rfl (hb hby o35_11) rfl ?_
    show oW p e below T2 (oF_tyN1 m 12 (oi 1) [(.int 1), (.ref tn)]) _
    refine own_ldO X2 hx hZ e2 Vt0 ⟨by decide, by decide⟩ (v := (.ref s1n)) rfl (g := (oF_tyN1 m 12 (oi 1) [(.int 1), (.ref tn)])) rfl rfl (hb hby o35_12) _ ?_
    show oW p e below T2 (oF_tyN1 m 13 (oi 1) [(.ref s1n)]) _
    refine XS.goto X2.here hx rfl (pc0 := 13) (pc' := 35) rfl (hb hby o35_13) (by decide) (by decide) ?_
    exact k) ?_
  obtain ⟨fs, hr, hrun, hended, hW, hsame⟩ := X2.leave (v := some (.ref s1n)) (fun h => by rw [Bd.returns] at h; cases h)
  refine ⟨_, _, retOut X2 hx Bd.returns rfl (Or.inr (Or.inr (Or.inr (Or.inr ⟨rfl, rfl, rfl⟩)))) (hb hby o35_35) hr, hPf _ _ ⟨hrun, hended, _, _, rfl, ?_, ⟨_, rfl⟩, hW, hsame.mono (by decide) (by decide)⟩⟩
  show own_Q_tyN1 Z tn ktn s0n s1n s2n s3n s4n s5n h0 n0 _ T2.heap _
  rw [e2]
  exact ⟨rfl, N0, rfl⟩
abbrev oF_tyN2 (m : MethodId) (pc : Nat) (a0 : Slot) (S : List Value) : JFrame := mkF m pc #[a0] S
theorem own_ef_tyN2 (m : MethodId) (x0 : Int32) : entryFrame m #[(.int x0)] 1 = mkF m 0 #[(oi x0)] [] := by first | (simp [entryFrame, mkF, argsToLocals, Value.category]; done) | rfl
def own_Q_tyN2 (Z : State) (tn : Addr) (ktn : ClassId) (s0n s1n s2n s3n s4n s5n : Addr) (h0 : Heap) (n0 : Nat) (v : Option Value) (h : Heap) (L : List Loc) : Prop := v = some (.ref s2n) ∧ Fr n0 L ∧ h = h0
set_option maxRecDepth 65536 in
set_option maxHeartbeats 40000000 in
theorem own_rm_tyN2 (l : Launch) (Z : State) (a0 : Array Value) (hw : ∀ d ∈ tables_1, d.before a0 Z = true) (ws : List Jvm.Cond) (tn : Addr) (ktn : ClassId) (s0n s1n s2n s3n s4n s5n : Addr) (h0 : Heap) (n0 : Nat) (Z0 : n0 ≤ h0.size) (St0 : Sta Z h0 "com/example/feeder/feeder/adapters/FrameFormat" "TYPE_NAMES" "[Ljava/lang/String;" (.ref tn)) (Vt0 : Arv Z h0 tn ktn (.object "java/lang/String") (6 : Int32) [(.ref s0n), (.ref s1n), (.ref s2n), (.ref s3n), (.ref s4n), (.ref s5n)] .null) :
    MetFree l (⟨"com/example/feeder/feeder/adapters/FrameFormat", "typeName", "(I)Ljava/lang/String;"⟩ : MethodName) (head1 (Jvm.Cond.code (⟨"com/example/feeder/feeder/adapters/FrameFormat", "typeName", "(I)Ljava/lang/String;"⟩ : MethodName) prog_3_method_5_code 1 (some (.object "java/lang/String")) :: ws) ({ frames := 0, cells := 0, slots := 0, locals := 0 } : Room)) (fun a U => a = #[(.int 2)] ∧ Z.Warmed39 U.vm ∧ U.heap = h0) (fun _ _ _ _ _ => True) (fun _ U o U' => ∃ v L, o = .returned v ∧ own_Q_tyN2 Z tn ktn s0n s1n s2n s3n s4n s5n h0 n0 v U'.heap L ∧ FrameEnd U o U' L ({ frames := 0, cells := 0, slots := 0, locals := 0 } : Room).cells ({ frames := 0, cells := 0, slots := 0, locals := 0 } : Room).slots) := by
  refine MetFree.of_bodySF (plainFor_of_name own_pn_com_example_feeder_feeder_adapters_FrameFormat) hisR ?_
  intro p e s m args below meth c s₁ Bd hml0 hP hKq_
  obtain ⟨rfl, hZ, hh⟩ := hP
  have hx := Bd.exec
  have hby := Bd.bytes
  have hml : c.maxLocals = 1 := hml0
  have hown : s.vm.findClass "com/example/feeder/feeder/adapters/FrameFormat" = some m.cls := findClass_of_methodNamed Bd.named
  have hnm := (name_of_methodNamed Bd.named Bd.method).1
  have ow7 := hw _ (List.mem_of_getElem? (i := 7) rfl)
  have X0 : Stand p l e ({ frames := 0, cells := 0, slots := 0, locals := 0 } : Room) s m #[(.int 2)] below meth c s₁ [] 0 0 := Stand.of_body Bd
  have e0 : s₁.heap = h0 := by rw [← hh, Bd.state]; rfl
  have N0 := Fr.nil n0
  have pre0 : ∀ t, Steps p.tables e below (s₁.setTop (mkF m 0 #[(oi 2)] [])) t → Steps p.tables e below (s₁.setTop (entryFrame m #[(.int 2)] 1)) t := fun t k => castTop (own_ef_tyN2 m (2 : Int32)) k
  refine own_go pre0 ?_
  refine own_abs ?_
  intro Pf hPf
  refine own_go (A := oW p e below s₁ (oF_tyN2 m 1 (oi 2) [(.int 2)])) (fun t k => by
    refine XS.iloadN X0.here hx rfl (hb hby o35_0) rfl ?_
    exact k) ?_
  obtain ⟨T1, X1, e1, st1⟩ := getS2 X0 hx hZ hown (host := "") (Or.inl ow7) Via.refl e0 St0 (g := (oF_tyN2 m 1 (oi 2) [(.int 2)])) rfl (hb hby o35_1)
  refine own_go st1 ?_
  refine own_go (A := oW p e below T1 (oF_tyN2 m 8 (oi 2) [])) (fun t k => by
    refine own_len2 X1 hx hZ e1 Vt0 (g := (oF_tyN2 m 4 (oi 2) [(.ref tn), (.int 2)])) rfl rfl (hb hby o35_4) _ ?_
    show oW p e below T1 (oF_tyN2 m 5 (oi 2) [(.int 6), (.int 2)]) _
    refine XS.icmpNo X1.here hx rfl (hb hby o35_5) rfl (tlt (by decide : (2 : Int32) < (6 : Int32))).2.1 ?_
    exact k) ?_
  obtain ⟨T2, X2, e2, st2⟩ := getS2 X1 hx hZ hown (host := "") (Or.inl ow7) Via.refl e1 St0 (g := (oF_tyN2 m 8 (oi 2) [])) rfl (hb hby o35_8)
  refine own_go st2 ?_
  refine own_go (A := oW p e below T2 (oF_tyN2 m 35 (oi 2) [(.ref s2n)])) (fun t k => by
    refine XS.iloadN X2.here hx rfl (hb hby o35_11) rfl ?_
    show oW p e below T2 (oF_tyN2 m 12 (oi 2) [(.int 2), (.ref tn)]) _
    refine own_ldO X2 hx hZ e2 Vt0 ⟨by decide, by decide⟩ (v := (.ref s2n)) rfl (g := (oF_tyN2 m 12 (oi 2) [(.int 2), (.ref tn)])) rfl rfl (hb hby o35_12) _ ?_
    show oW p e below T2 (oF_tyN2 m 13 (oi 2) [(.ref s2n)]) _
    refine XS.goto X2.here hx rfl (pc0 := 13) (pc' := 35) rfl (hb hby o35_13) (by decide) (by decide) ?_
    exact k) ?_
  obtain ⟨fs, hr, hrun, hended, hW, hsame⟩ := X2.leave (v := some (.ref s2n)) (fun h => by rw [Bd.returns] at h; cases h)
  refine ⟨_, _, retOut X2 hx Bd.returns rfl (Or.inr (Or.inr (Or.inr (Or.inr ⟨rfl, rfl, rfl⟩)))) (hb hby o35_35) hr, hPf _ _ ⟨hrun, hended, _, _, rfl, ?_, ⟨_, rfl⟩, hW, hsame.mono (by decide) (by decide)⟩⟩
  show own_Q_tyN2 Z tn ktn s0n s1n s2n s3n s4n s5n h0 n0 _ T2.heap _
  rw [e2]
  exact ⟨rfl, N0, rfl⟩
abbrev oF_tyN3 (m : MethodId) (pc : Nat) (a0 : Slot) (S : List Value) : JFrame := mkF m pc #[a0] S
theorem own_ef_tyN3 (m : MethodId) (x0 : Int32) : entryFrame m #[(.int x0)] 1 = mkF m 0 #[(oi x0)] [] := by first | (simp [entryFrame, mkF, argsToLocals, Value.category]; done) | rfl
def own_Q_tyN3 (Z : State) (tn : Addr) (ktn : ClassId) (s0n s1n s2n s3n s4n s5n : Addr) (h0 : Heap) (n0 : Nat) (v : Option Value) (h : Heap) (L : List Loc) : Prop := v = some (.ref s3n) ∧ Fr n0 L ∧ h = h0
set_option maxRecDepth 65536 in
set_option maxHeartbeats 40000000 in
theorem own_rm_tyN3 (l : Launch) (Z : State) (a0 : Array Value) (hw : ∀ d ∈ tables_1, d.before a0 Z = true) (ws : List Jvm.Cond) (tn : Addr) (ktn : ClassId) (s0n s1n s2n s3n s4n s5n : Addr) (h0 : Heap) (n0 : Nat) (Z0 : n0 ≤ h0.size) (St0 : Sta Z h0 "com/example/feeder/feeder/adapters/FrameFormat" "TYPE_NAMES" "[Ljava/lang/String;" (.ref tn)) (Vt0 : Arv Z h0 tn ktn (.object "java/lang/String") (6 : Int32) [(.ref s0n), (.ref s1n), (.ref s2n), (.ref s3n), (.ref s4n), (.ref s5n)] .null) :
    MetFree l (⟨"com/example/feeder/feeder/adapters/FrameFormat", "typeName", "(I)Ljava/lang/String;"⟩ : MethodName) (head1 (Jvm.Cond.code (⟨"com/example/feeder/feeder/adapters/FrameFormat", "typeName", "(I)Ljava/lang/String;"⟩ : MethodName) prog_3_method_5_code 1 (some (.object "java/lang/String")) :: ws) ({ frames := 0, cells := 0, slots := 0, locals := 0 } : Room)) (fun a U => a = #[(.int 3)] ∧ Z.Warmed39 U.vm ∧ U.heap = h0) (fun _ _ _ _ _ => True) (fun _ U o U' => ∃ v L, o = .returned v ∧ own_Q_tyN3 Z tn ktn s0n s1n s2n s3n s4n s5n h0 n0 v U'.heap L ∧ FrameEnd U o U' L ({ frames := 0, cells := 0, slots := 0, locals := 0 } : Room).cells ({ frames := 0, cells := 0, slots := 0, locals := 0 } : Room).slots) := by
  refine MetFree.of_bodySF (plainFor_of_name own_pn_com_example_feeder_feeder_adapters_FrameFormat) hisR ?_
  intro p e s m args below meth c s₁ Bd hml0 hP hKq_
  obtain ⟨rfl, hZ, hh⟩ := hP
  have hx := Bd.exec
  have hby := Bd.bytes
  have hml : c.maxLocals = 1 := hml0
  have hown : s.vm.findClass "com/example/feeder/feeder/adapters/FrameFormat" = some m.cls := findClass_of_methodNamed Bd.named
  have hnm := (name_of_methodNamed Bd.named Bd.method).1
  have ow7 := hw _ (List.mem_of_getElem? (i := 7) rfl)
  have X0 : Stand p l e ({ frames := 0, cells := 0, slots := 0, locals := 0 } : Room) s m #[(.int 3)] below meth c s₁ [] 0 0 := Stand.of_body Bd
  have e0 : s₁.heap = h0 := by rw [← hh, Bd.state]; rfl
  have N0 := Fr.nil n0
  have pre0 : ∀ t, Steps p.tables e below (s₁.setTop (mkF m 0 #[(oi 3)] [])) t → Steps p.tables e below (s₁.setTop (entryFrame m #[(.int 3)] 1)) t := fun t k => castTop (own_ef_tyN3 m (3 : Int32)) k
  refine own_go pre0 ?_
  refine own_abs ?_
  intro Pf hPf
  refine own_go (A := oW p e below s₁ (oF_tyN3 m 1 (oi 3) [(.int 3)])) (fun t k => by
    refine XS.iloadN X0.here hx rfl (hb hby o35_0) rfl ?_
    exact k) ?_
  obtain ⟨T1, X1, e1, st1⟩ := getS2 X0 hx hZ hown (host := "") (Or.inl ow7) Via.refl e0 St0 (g := (oF_tyN3 m 1 (oi 3) [(.int 3)])) rfl (hb hby o35_1)
  refine own_go st1 ?_
  refine own_go (A := oW p e below T1 (oF_tyN3 m 8 (oi 3) [])) (fun t k => by
    refine own_len2 X1 hx hZ e1 Vt0 (g := (oF_tyN3 m 4 (oi 3) [(.ref tn), (.int 3)])) rfl rfl (hb hby o35_4) _ ?_
    show oW p e below T1 (oF_tyN3 m 5 (oi 3) [(.int 6), (.int 3)]) _
    refine XS.icmpNo X1.here hx rfl (hb hby o35_5) rfl (tlt (by decide : (3 : Int32) < (6 : Int32))).2.1 ?_
    exact k) ?_
  obtain ⟨T2, X2, e2, st2⟩ := getS2 X1 hx hZ hown (host := "") (Or.inl ow7) Via.refl e1 St0 (g := (oF_tyN3 m 8 (oi 3) [])) rfl (hb hby o35_8)
  refine own_go st2 ?_
  refine own_go (A := oW p e below T2 (oF_tyN3 m 35 (oi 3) [(.ref s3n)])) (fun t k => by
    refine XS.iloadN X2.here hx rfl (hb hby o35_11) rfl ?_
    show oW p e below T2 (oF_tyN3 m 12 (oi 3) [(.int 3), (.ref tn)]) _
    refine own_ldO X2 hx hZ e2 Vt0 ⟨by decide, by decide⟩ (v := (.ref s3n)) rfl (g := (oF_tyN3 m 12 (oi 3) [(.int 3), (.ref tn)])) rfl rfl (hb hby o35_12) _ ?_
    show oW p e below T2 (oF_tyN3 m 13 (oi 3) [(.ref s3n)]) _
    refine XS.goto X2.here hx rfl (pc0 := 13) (pc' := 35) rfl (hb hby o35_13) (by decide) (by decide) ?_
    exact k) ?_
  obtain ⟨fs, hr, hrun, hended, hW, hsame⟩ := X2.leave (v := some (.ref s3n)) (fun h => by rw [Bd.returns] at h; cases h)
  refine ⟨_, _, retOut X2 hx Bd.returns rfl (Or.inr (Or.inr (Or.inr (Or.inr ⟨rfl, rfl, rfl⟩)))) (hb hby o35_35) hr, hPf _ _ ⟨hrun, hended, _, _, rfl, ?_, ⟨_, rfl⟩, hW, hsame.mono (by decide) (by decide)⟩⟩
  show own_Q_tyN3 Z tn ktn s0n s1n s2n s3n s4n s5n h0 n0 _ T2.heap _
  rw [e2]
  exact ⟨rfl, N0, rfl⟩
abbrev oF_tyN4 (m : MethodId) (pc : Nat) (a0 : Slot) (S : List Value) : JFrame := mkF m pc #[a0] S
theorem own_ef_tyN4 (m : MethodId) (x0 : Int32) : entryFrame m #[(.int x0)] 1 = mkF m 0 #[(oi x0)] [] := by first | (simp [entryFrame, mkF, argsToLocals, Value.category]; done) | rfl
def own_Q_tyN4 (Z : State) (tn : Addr) (ktn : ClassId) (s0n s1n s2n s3n s4n s5n : Addr) (h0 : Heap) (n0 : Nat) (v : Option Value) (h : Heap) (L : List Loc) : Prop := v = some (.ref s4n) ∧ Fr n0 L ∧ h = h0
set_option maxRecDepth 65536 in
set_option maxHeartbeats 40000000 in
theorem own_rm_tyN4 (l : Launch) (Z : State) (a0 : Array Value) (hw : ∀ d ∈ tables_1, d.before a0 Z = true) (ws : List Jvm.Cond) (tn : Addr) (ktn : ClassId) (s0n s1n s2n s3n s4n s5n : Addr) (h0 : Heap) (n0 : Nat) (Z0 : n0 ≤ h0.size) (St0 : Sta Z h0 "com/example/feeder/feeder/adapters/FrameFormat" "TYPE_NAMES" "[Ljava/lang/String;" (.ref tn)) (Vt0 : Arv Z h0 tn ktn (.object "java/lang/String") (6 : Int32) [(.ref s0n), (.ref s1n), (.ref s2n), (.ref s3n), (.ref s4n), (.ref s5n)] .null) :
    MetFree l (⟨"com/example/feeder/feeder/adapters/FrameFormat", "typeName", "(I)Ljava/lang/String;"⟩ : MethodName) (head1 (Jvm.Cond.code (⟨"com/example/feeder/feeder/adapters/FrameFormat", "typeName", "(I)Ljava/lang/String;"⟩ : MethodName) prog_3_method_5_code 1 (some (.object "java/lang/String")) :: ws) ({ frames := 0, cells := 0, slots := 0, locals := 0 } : Room)) (fun a U => a = #[(.int 4)] ∧ Z.Warmed39 U.vm ∧ U.heap = h0) (fun _ _ _ _ _ => True) (fun _ U o U' => ∃ v L, o = .returned v ∧ own_Q_tyN4 Z tn ktn s0n s1n s2n s3n s4n s5n h0 n0 v U'.heap L ∧ FrameEnd U o U' L ({ frames := 0, cells := 0, slots := 0, locals := 0 } : Room).cells ({ frames := 0, cells := 0, slots := 0, locals := 0 } : Room).slots) := by
  refine MetFree.of_bodySF (plainFor_of_name own_pn_com_example_feeder_feeder_adapters_FrameFormat) hisR ?_
  intro p e s m args below meth c s₁ Bd hml0 hP hKq_
  obtain ⟨rfl, hZ, hh⟩ := hP
  have hx := Bd.exec
  have hby := Bd.bytes
  have hml : c.maxLocals = 1 := hml0
  have hown : s.vm.findClass "com/example/feeder/feeder/adapters/FrameFormat" = some m.cls := findClass_of_methodNamed Bd.named
  have hnm := (name_of_methodNamed Bd.named Bd.method).1
  have ow7 := hw _ (List.mem_of_getElem? (i := 7) rfl)
  have X0 : Stand p l e ({ frames := 0, cells := 0, slots := 0, locals := 0 } : Room) s m #[(.int 4)] below meth c s₁ [] 0 0 := Stand.of_body Bd
  have e0 : s₁.heap = h0 := by rw [← hh, Bd.state]; rfl
  have N0 := Fr.nil n0
  have pre0 : ∀ t, Steps p.tables e below (s₁.setTop (mkF m 0 #[(oi 4)] [])) t → Steps p.tables e below (s₁.setTop (entryFrame m #[(.int 4)] 1)) t := fun t k => castTop (own_ef_tyN4 m (4 : Int32)) k
  refine own_go pre0 ?_
  refine own_abs ?_
  intro Pf hPf
  refine own_go (A := oW p e below s₁ (oF_tyN4 m 1 (oi 4) [(.int 4)])) (fun t k => by
    refine XS.iloadN X0.here hx rfl (hb hby o35_0) rfl ?_
    exact k) ?_
  obtain ⟨T1, X1, e1, st1⟩ := getS2 X0 hx hZ hown (host := "") (Or.inl ow7) Via.refl e0 St0 (g := (oF_tyN4 m 1 (oi 4) [(.int 4)])) rfl (hb hby o35_1)
  refine own_go st1 ?_
  refine own_go (A := oW p e below T1 (oF_tyN4 m 8 (oi 4) [])) (fun t k => by
    refine own_len2 X1 hx hZ e1 Vt0 (g := (oF_tyN4 m 4 (oi 4) [(.ref tn), (.int 4)])) rfl rfl (hb hby o35_4) _ ?_
    show oW p e below T1 (oF_tyN4 m 5 (oi 4) [(.int 6), (.int 4)]) _
    refine XS.icmpNo X1.here hx rfl (hb hby o35_5) rfl (tlt (by decide : (4 : Int32) < (6 : Int32))).2.1 ?_
    exact k) ?_
  obtain ⟨T2, X2, e2, st2⟩ := getS2 X1 hx hZ hown (host := "") (Or.inl ow7) Via.refl e1 St0 (g := (oF_tyN4 m 8 (oi 4) [])) rfl (hb hby o35_8)
  refine own_go st2 ?_
  refine own_go (A := oW p e below T2 (oF_tyN4 m 35 (oi 4) [(.ref s4n)])) (fun t k => by
    refine XS.iloadN X2.here hx rfl (hb hby o35_11) rfl ?_
    show oW p e below T2 (oF_tyN4 m 12 (oi 4) [(.int 4), (.ref tn)]) _
    refine own_ldO X2 hx hZ e2 Vt0 ⟨by decide, by decide⟩ (v := (.ref s4n)) rfl (g := (oF_tyN4 m 12 (oi 4) [(.int 4), (.ref tn)])) rfl rfl (hb hby o35_12) _ ?_
    show oW p e below T2 (oF_tyN4 m 13 (oi 4) [(.ref s4n)]) _
    refine XS.goto X2.here hx rfl (pc0 := 13) (pc' := 35) rfl (hb hby o35_13) (by decide) (by decide) ?_
    exact k) ?_
  obtain ⟨fs, hr, hrun, hended, hW, hsame⟩ := X2.leave (v := some (.ref s4n)) (fun h => by rw [Bd.returns] at h; cases h)
  refine ⟨_, _, retOut X2 hx Bd.returns rfl (Or.inr (Or.inr (Or.inr (Or.inr ⟨rfl, rfl, rfl⟩)))) (hb hby o35_35) hr, hPf _ _ ⟨hrun, hended, _, _, rfl, ?_, ⟨_, rfl⟩, hW, hsame.mono (by decide) (by decide)⟩⟩
  show own_Q_tyN4 Z tn ktn s0n s1n s2n s3n s4n s5n h0 n0 _ T2.heap _
  rw [e2]
  exact ⟨rfl, N0, rfl⟩
abbrev oF_tyN5 (m : MethodId) (pc : Nat) (a0 : Slot) (S : List Value) : JFrame := mkF m pc #[a0] S
theorem own_ef_tyN5 (m : MethodId) (x0 : Int32) : entryFrame m #[(.int x0)] 1 = mkF m 0 #[(oi x0)] [] := by first | (simp [entryFrame, mkF, argsToLocals, Value.category]; done) | rfl
def own_Q_tyN5 (Z : State) (tn : Addr) (ktn : ClassId) (s0n s1n s2n s3n s4n s5n : Addr) (h0 : Heap) (n0 : Nat) (v : Option Value) (h : Heap) (L : List Loc) : Prop := v = some (.ref s5n) ∧ Fr n0 L ∧ h = h0
set_option maxRecDepth 65536 in
set_option maxHeartbeats 40000000 in
theorem own_rm_tyN5 (l : Launch) (Z : State) (a0 : Array Value) (hw : ∀ d ∈ tables_1, d.before a0 Z = true) (ws : List Jvm.Cond) (tn : Addr) (ktn : ClassId) (s0n s1n s2n s3n s4n s5n : Addr) (h0 : Heap) (n0 : Nat) (Z0 : n0 ≤ h0.size) (St0 : Sta Z h0 "com/example/feeder/feeder/adapters/FrameFormat" "TYPE_NAMES" "[Ljava/lang/String;" (.ref tn)) (Vt0 : Arv Z h0 tn ktn (.object "java/lang/String") (6 : Int32) [(.ref s0n), (.ref s1n), (.ref s2n), (.ref s3n), (.ref s4n), (.ref s5n)] .null) :
    MetFree l (⟨"com/example/feeder/feeder/adapters/FrameFormat", "typeName", "(I)Ljava/lang/String;"⟩ : MethodName) (head1 (Jvm.Cond.code (⟨"com/example/feeder/feeder/adapters/FrameFormat", "typeName", "(I)Ljava/lang/String;"⟩ : MethodName) prog_3_method_5_code 1 (some (.object "java/lang/String")) :: ws) ({ frames := 0, cells := 0, slots := 0, locals := 0 } : Room)) (fun a U => a = #[(.int 5)] ∧ Z.Warmed39 U.vm ∧ U.heap = h0) (fun _ _ _ _ _ => True) (fun _ U o U' => ∃ v L, o = .returned v ∧ own_Q_tyN5 Z tn ktn s0n s1n s2n s3n s4n s5n h0 n0 v U'.heap L ∧ FrameEnd U o U' L ({ frames := 0, cells := 0, slots := 0, locals := 0 } : Room).cells ({ frames := 0, cells := 0, slots := 0, locals := 0 } : Room).slots) := by
  refine MetFree.of_bodySF (plainFor_of_name own_pn_com_example_feeder_feeder_adapters_FrameFormat) hisR ?_
  intro p e s m args below meth c s₁ Bd hml0 hP hKq_
  obtain ⟨rfl, hZ, hh⟩ := hP
  have hx := Bd.exec
  have hby := Bd.bytes
  have hml : c.maxLocals = 1 := hml0
  have hown : s.vm.findClass "com/example/feeder/feeder/adapters/FrameFormat" = some m.cls := findClass_of_methodNamed Bd.named
  have hnm := (name_of_methodNamed Bd.named Bd.method).1
  have ow7 := hw _ (List.mem_of_getElem? (i := 7) rfl)
  have X0 : Stand p l e ({ frames := 0, cells := 0, slots := 0, locals := 0 } : Room) s m #[(.int 5)] below meth c s₁ [] 0 0 := Stand.of_body Bd
  have e0 : s₁.heap = h0 := by rw [← hh, Bd.state]; rfl
  have N0 := Fr.nil n0
  have pre0 : ∀ t, Steps p.tables e below (s₁.setTop (mkF m 0 #[(oi 5)] [])) t → Steps p.tables e below (s₁.setTop (entryFrame m #[(.int 5)] 1)) t := fun t k => castTop (own_ef_tyN5 m (5 : Int32)) k
  refine own_go pre0 ?_
  refine own_abs ?_
  intro Pf hPf
  refine own_go (A := oW p e below s₁ (oF_tyN5 m 1 (oi 5) [(.int 5)])) (fun t k => by
    refine XS.iloadN X0.here hx rfl (hb hby o35_0) rfl ?_
    exact k) ?_
  obtain ⟨T1, X1, e1, st1⟩ := getS2 X0 hx hZ hown (host := "") (Or.inl ow7) Via.refl e0 St0 (g := (oF_tyN5 m 1 (oi 5) [(.int 5)])) rfl (hb hby o35_1)
  refine own_go st1 ?_
  refine own_go (A := oW p e below T1 (oF_tyN5 m 8 (oi 5) [])) (fun t k => by
    refine own_len2 X1 hx hZ e1 Vt0 (g := (oF_tyN5 m 4 (oi 5) [(.ref tn), (.int 5)])) rfl rfl (hb hby o35_4) _ ?_
    show oW p e below T1 (oF_tyN5 m 5 (oi 5) [(.int 6), (.int 5)]) _
    refine XS.icmpNo X1.here hx rfl (hb hby o35_5) rfl (tlt (by decide : (5 : Int32) < (6 : Int32))).2.1 ?_
    exact k) ?_
  obtain ⟨T2, X2, e2, st2⟩ := getS2 X1 hx hZ hown (host := "") (Or.inl ow7) Via.refl e1 St0 (g := (oF_tyN5 m 8 (oi 5) [])) rfl (hb hby o35_8)
  refine own_go st2 ?_
  refine own_go (A := oW p e below T2 (oF_tyN5 m 35 (oi 5) [(.ref s5n)])) (fun t k => by
    refine XS.iloadN X2.here hx rfl (hb hby o35_11) rfl ?_
    show oW p e below T2 (oF_tyN5 m 12 (oi 5) [(.int 5), (.ref tn)]) _
    refine own_ldO X2 hx hZ e2 Vt0 ⟨by decide, by decide⟩ (v := (.ref s5n)) rfl (g := (oF_tyN5 m 12 (oi 5) [(.int 5), (.ref tn)])) rfl rfl (hb hby o35_12) _ ?_
    show oW p e below T2 (oF_tyN5 m 13 (oi 5) [(.ref s5n)]) _
    refine XS.goto X2.here hx rfl (pc0 := 13) (pc' := 35) rfl (hb hby o35_13) (by decide) (by decide) ?_
    exact k) ?_
  obtain ⟨fs, hr, hrun, hended, hW, hsame⟩ := X2.leave (v := some (.ref s5n)) (fun h => by rw [Bd.returns] at h; cases h)
  refine ⟨_, _, retOut X2 hx Bd.returns rfl (Or.inr (Or.inr (Or.inr (Or.inr ⟨rfl, rfl, rfl⟩)))) (hb hby o35_35) hr, hPf _ _ ⟨hrun, hended, _, _, rfl, ?_, ⟨_, rfl⟩, hW, hsame.mono (by decide) (by decide)⟩⟩
  show own_Q_tyN5 Z tn ktn s0n s1n s2n s3n s4n s5n h0 n0 _ T2.heap _
  rw [e2]
  exact ⟨rfl, N0, rfl⟩
abbrev oF_tyN6 (m : MethodId) (pc : Nat) (a0 : Slot) (S : List Value) : JFrame := mkF m pc #[a0] S
theorem o35_16 : decode prog_3_method_5_code 16 = .ok (.new 34, 3) := by decide +kernel
theorem o35_19 : decode prog_3_method_5_code 19 = .ok (.dup, 1) := by decide +kernel
theorem o35_20 : decode prog_3_method_5_code 20 = .ok (.invokespecial 36, 3) := by decide +kernel
theorem own_pd_2829V : parseMethodDescriptor "()V" = some ⟨[], none⟩ := by decide +kernel
theorem o35_23 : decode prog_3_method_5_code 23 = .ok (.ldc 58, 2) := by decide +kernel
theorem o35_25 : decode prog_3_method_5_code 25 = .ok (.invokevirtual 39, 3) := by decide +kernel
theorem own_pd_28Ljava2flang2fString3b29Ljava2flang2fStringBuilder3b : parseMethodDescriptor "(Ljava/lang/String;)Ljava/lang/StringBuilder;" = some ⟨[(.object "java/lang/String")], some (.object "java/lang/StringBuilder")⟩ := by decide +kernel
theorem o35_28 : decode prog_3_method_5_code 28 = .ok (.iload_n 0, 1) := by decide +kernel
theorem o35_29 : decode prog_3_method_5_code 29 = .ok (.invokevirtual 43, 3) := by decide +kernel
theorem own_pd_28I29Ljava2flang2fStringBuilder3b : parseMethodDescriptor "(I)Ljava/lang/StringBuilder;" = some ⟨[.int], some (.object "java/lang/StringBuilder")⟩ := by decide +kernel
theorem o35_32 : decode prog_3_method_5_code 32 = .ok (.invokevirtual 50, 3) := by decide +kernel
theorem own_pd_2829Ljava2flang2fString3b : parseMethodDescriptor "()Ljava/lang/String;" = some ⟨[], some (.object "java/lang/String")⟩ := by decide +kernel
theorem own_ef_tyN6 (m : MethodId) (x0 : Int32) : entryFrame m #[(.int x0)] 1 = mkF m 0 #[(oi x0)] [] := by first | (simp [entryFrame, mkF, argsToLocals, Value.category]; done) | rfl
def own_Q_tyN6 (Z : State) (tn : Addr) (ktn : ClassId) (s0n s1n s2n s3n s4n s5n : Addr) (cz : Int32) (fm : Value) (dg : Addr) (cld : Cell) (h0 : Heap) (n0 : Nat) (v : Option Value) (h : Heap) (L : List Loc) : Prop := ∃ (so nb : Addr) (kn : ClassId), v = some (.ref so) ∧ Fr n0 L ∧ Exa Z h so "java/lang/String" ∧ Fld Z h so "java/lang/String" "coder" "B" (.int 0) ∧ Fld Z h so "java/lang/String" "value" "[B" (.ref nb) ∧ Arv Z h nb kn .byte (6 : Int32) [(.int 116), (.int 121), (.int 112), (.int 101), (.int 32), (.int (nar .byte (atv cld (6 : Int32))))] (.int 0) ∧ Sta Z h "java/lang/String" "COMPACT_STRINGS" "Z" (.int cz) ∧ Sta Z h "jdk/internal/util/Preconditions" "SIOOBE_FORMATTER" "Ljava/util/function/BiFunction;" fm
set_option maxRecDepth 65536 in
set_option maxHeartbeats 40000000 in
theorem own_rm_tyN6 (l : Launch) (Z : State) (a0 : Array Value) (hw : ∀ d ∈ tables_1, d.before a0 Z = true) (ws : List Jvm.Cond) (tn : Addr) (ktn : ClassId) (s0n s1n s2n s3n s4n s5n : Addr) (cz : Int32) (fm : Value) (dg : Addr) (cld : Cell) (h0 : Heap) (n0 : Nat) (Z0 : n0 ≤ h0.size) (St0 : Sta Z h0 "com/example/feeder/feeder/adapters/FrameFormat" "TYPE_NAMES" "[Ljava/lang/String;" (.ref tn)) (Vt0 : Arv Z h0 tn ktn (.object "java/lang/String") (6 : Int32) [(.ref s0n), (.ref s1n), (.ref s2n), (.ref s3n), (.ref s4n), (.ref s5n)] .null) (Sc0 : Sta Z h0 "java/lang/String" "COMPACT_STRINGS" "Z" (.int cz)) (hcz : ¬ cz = (0 : Int32)) (Sf0 : Sta Z h0 "jdk/internal/util/Preconditions" "SIOOBE_FORMATTER" "Ljava/util/function/BiFunction;" fm) (hfm : fm.isRef = true) (Sd0 : Sta Z h0 "java/lang/Integer" "DigitOnes" "[B" (.ref dg)) (Td0 : Tab Z h0 dg cld .byte (100 : Int32)) :
    MetFree l (⟨"com/example/feeder/feeder/adapters/FrameFormat", "typeName", "(I)Ljava/lang/String;"⟩ : MethodName) (head1 (Jvm.Cond.code (⟨"com/example/feeder/feeder/adapters/FrameFormat", "typeName", "(I)Ljava/lang/String;"⟩ : MethodName) prog_3_method_5_code 1 (some (.object "java/lang/String")) :: ws) ({ frames := 6, cells := 6, slots := 54, locals := 137 } : Room)) (fun a U => a = #[(.int 6)] ∧ Z.Warmed39 U.vm ∧ U.heap = h0 ∧ CHv Z consts_1 U.vm h0) (fun _ _ _ _ _ => True) (fun _ U o U' => ∃ v L, o = .returned v ∧ own_Q_tyN6 Z tn ktn s0n s1n s2n s3n s4n s5n cz fm dg cld h0 n0 v U'.heap L ∧ ReturnedEndW U o U' L ({ frames := 6, cells := 6, slots := 54, locals := 137 } : Room).cells ({ frames := 6, cells := 6, slots := 54, locals := 137 } : Room).slots) := by
  refine MetFree.of_bodySF (plainFor_of_name own_pn_com_example_feeder_feeder_adapters_FrameFormat) hisR ?_
  intro p e s m args below meth c s₁ Bd hml0 hP hKq_
  obtain ⟨rfl, hZ, hh, H0c⟩ := hP
  have hx := Bd.exec
  have hby := Bd.bytes
  have hml : c.maxLocals = 1 := hml0
  have hown : s.vm.findClass "com/example/feeder/feeder/adapters/FrameFormat" = some m.cls := findClass_of_methodNamed Bd.named
  have hnm := (name_of_methodNamed Bd.named Bd.method).1
  have ow7 := hw _ (List.mem_of_getElem? (i := 7) rfl)
  have ow47 := hw _ (List.mem_of_getElem? (i := 47) rfl)
  have ow48 := hw _ (List.mem_of_getElem? (i := 48) rfl)
  have ow49 := hw _ (List.mem_of_getElem? (i := 49) rfl)
  have ow50 := hw _ (List.mem_of_getElem? (i := 50) rfl)
  have ow51 := hw _ (List.mem_of_getElem? (i := 51) rfl)
  have ow52 := hw _ (List.mem_of_getElem? (i := 52) rfl)
  have ow65 := hw _ (List.mem_of_getElem? (i := 65) rfl)
  have ow67 := hw _ (List.mem_of_getElem? (i := 67) rfl)
  have ow68 := hw _ (List.mem_of_getElem? (i := 68) rfl)
  have ow69 := hw _ (List.mem_of_getElem? (i := 69) rfl)
  have ow72 := hw _ (List.mem_of_getElem? (i := 72) rfl)
  have ow73 := hw _ (List.mem_of_getElem? (i := 73) rfl)
  have ow74 := hw _ (List.mem_of_getElem? (i := 74) rfl)
  have ow75 := hw _ (List.mem_of_getElem? (i := 75) rfl)
  have ow76 := hw _ (List.mem_of_getElem? (i := 76) rfl)
  have ow84 := hw _ (List.mem_of_getElem? (i := 84) rfl)
  have ow110 := hw _ (List.mem_of_getElem? (i := 110) rfl)
  have ow111 := hw _ (List.mem_of_getElem? (i := 111) rfl)
  have ow112 := hw _ (List.mem_of_getElem? (i := 112) rfl)
  have ow113 := hw _ (List.mem_of_getElem? (i := 113) rfl)
  have ow114 := hw _ (List.mem_of_getElem? (i := 114) rfl)
  have ow132 := hw _ (List.mem_of_getElem? (i := 132) rfl)
  have ow133 := hw _ (List.mem_of_getElem? (i := 133) rfl)
  have ow134 := hw _ (List.mem_of_getElem? (i := 134) rfl)
  have ow135 := hw _ (List.mem_of_getElem? (i := 135) rfl)
  have ow136 := hw _ (List.mem_of_getElem? (i := 136) rfl)
  have X0 : Stand p l e ({ frames := 6, cells := 6, slots := 54, locals := 137 } : Room) (s.setVm s.vm) m #[(.int 6)] below meth c s₁ [] 0 0 := Stand.of_body Bd
  have e0 : s₁.heap = h0 := by rw [← hh, Bd.state]; rfl
  have N0 := Fr.nil n0
  have pre0 : ∀ t, Steps p.tables e below (s₁.setTop (mkF m 0 #[(oi 6)] [])) t → Steps p.tables e below (s₁.setTop (entryFrame m #[(.int 6)] 1)) t := fun t k => castTop (own_ef_tyN6 m (6 : Int32)) k
  refine own_go pre0 ?_
  refine own_abs ?_
  intro Pf hPf
  have hZ : Z.Warmed39 (s.setVm s.vm).vm := hZ
  have hown : (s.setVm s.vm).vm.findClass "com/example/feeder/feeder/adapters/FrameFormat" = some m.cls := hown
  have Sn0 : s.Since s.vm 0 := (State.WarmedH.refl s).since 0
  have hk0 : 0 ≤ h0.size := Nat.zero_le _
  refine own_go (A := oW p e below s₁ (oF_tyN6 m 1 (oi 6) [(.int 6)])) (fun t k => by
    refine XS.iloadN X0.here hx rfl (hb hby o35_0) rfl ?_
    exact k) ?_
  obtain ⟨T1, X1, e1, st1⟩ := getS2 X0 hx hZ hown (host := "") (Or.inl ow7) Via.refl e0 St0 (g := (oF_tyN6 m 1 (oi 6) [(.int 6)])) rfl (hb hby o35_1)
  refine own_go st1 ?_
  refine own_go (A := oW p e below T1 (oF_tyN6 m 16 (oi 6) [])) (fun t k => by
    refine own_len2 X1 hx hZ e1 Vt0 (g := (oF_tyN6 m 4 (oi 6) [(.ref tn), (.int 6)])) rfl rfl (hb hby o35_4) _ ?_
    show oW p e below T1 (oF_tyN6 m 5 (oi 6) [(.int 6), (.int 6)]) _
    refine XS.icmpYes X1.here hx rfl (pc0 := 5) (pc' := 16) rfl (hb hby o35_5) rfl (flt (by decide : ¬ ((6 : Int32) < (6 : Int32)))).2.1 (by decide) (by decide) ?_
    exact k) ?_
  obtain ⟨T2, h2, X2, e2, E2, A2, D2, -, st2⟩ := newO X1 hx hZ hown ow47 ow48 ow49 e1 (g := (oF_tyN6 m 16 (oi 6) [])) rfl (hb hby o35_16) (by decide) (by decide)
  obtain ⟨b2, g2⟩ : ∃ z, z = h0.size := ⟨_, rfl⟩
  rw [← g2] at A2 D2 st2
  refine own_go st2 ?_
  have ne_dg_b2 : dg ≠ b2 := Nat.ne_of_lt (Nat.lt_of_lt_of_le Td0.lt (Nat.le_of_eq g2.symm))
  have ne_tn_b2 : tn ≠ b2 := Nat.ne_of_lt (Nat.lt_of_lt_of_le Vt0.lt (Nat.le_of_eq g2.symm))
  have g_b2 : n0 ≤ b2 := Nat.le_trans Z0 (Nat.le_of_eq g2.symm)
  have hk2 : 0 ≤ h2.size := Nat.le_trans hk0 E2.1
  have Z2 : n0 ≤ h2.size := Nat.le_trans Z0 E2.1
  have F2_value : Fld Z h2 b2 "java/lang/AbstractStringBuilder" "value" "[B" .null := D2 (Or.inl ow65) (ty := (.array .byte)) (by decide)
  have F2_coder : Fld Z h2 b2 "java/lang/AbstractStringBuilder" "coder" "B" (.int 0) := D2 (Or.inl ow67) (ty := .byte) (by decide)
  have F2_count : Fld Z h2 b2 "java/lang/AbstractStringBuilder" "count" "I" (.int 0) := D2 (Or.inl ow84) (ty := .int) (by decide)
  refine own_go (A := oW p e below T2 (oF_tyN6 m 20 (oi 6) [(.ref b2), (.ref b2)])) (fun t k => by
    refine XS.dup X2.here hx rfl (hb hby o35_19) rfl rfl ?_
    exact k) ?_
  obtain ⟨_, _, ⟨T3, L3, k3, n3⟩, -, X3, ⟨Lc3, hQ3, l3, y3, z3⟩, st3⟩ := X2.specialBack hx (y := (⟨"java/lang/StringBuilder", "<init>", "()V"⟩ : MethodName)) rfl hown (mvT hZ ow50) (mvT hZ ow51) (mvT hZ ow52) (by decide) (backOf (W := 1) (own_rm_sbI l Z a0 hw [] b2 cz h2 n0 Z2 A2 F2_value F2_coder F2_count g_b2 (Sc0.ext E2) hcz) hZ ow52 ow49 (by decide) (by decide)) (g := (oF_tyN6 m 20 (oi 6) [(.ref b2), (.ref b2)])) rfl (by rw [hml]; rfl) (Steps.refl _) (a := b2) (argsL := []) (rest := [(.ref b2)]) (lenOf own_pd_2829V rfl) rfl (by show 2 * 0 + _ ≤ _; exact Nat.le_of_eq rfl) (hb hby o35_20) (fun _ _ => ⟨rfl, e2, (by decide : 1 + 1 ≤ _), (by decide : 4 + 16 ≤ _)⟩)
  dsimp only [Pt.U, Pt.locs, Pt.cells, Pt.slots] at X3 l3 y3 z3 st3 hQ3
  subst l3 y3 z3
  obtain ⟨bv, kb, rfl, N3q, K3q, s_bv, p3_0, p3_1, p3_2, p3_3, p3_4⟩ := hQ3
  have N3 := Fr.app N0 N3q
  have g_bv : n0 ≤ bv := Nat.le_trans Z2 s_bv
  have ne_dg_bv : dg ≠ bv := Nat.ne_of_lt (Nat.lt_of_lt_of_le (Td0.ext E2).lt s_bv)
  have ne_tn_bv : tn ≠ bv := Nat.ne_of_lt (Nat.lt_of_lt_of_le (Vt0.ext E2).lt s_bv)
  have ne_b2_bv : b2 ≠ bv := Nat.ne_of_lt (Nat.lt_of_lt_of_le A2.lt s_bv)
  have f3_0 : Sta Z T3.heap "com/example/feeder/feeder/adapters/FrameFormat" "TYPE_NAMES" "[Ljava/lang/String;" (.ref tn) := own_stakE (St0.ext E2) K3q (allS (own_nsE A2) all0)
  have f3_1 : Arv Z T3.heap tn ktn (.object "java/lang/String") (6 : Int32) [(.ref s0n), (.ref s1n), (.ref s2n), (.ref s3n), (.ref s4n), (.ref s5n)] .null := (Vt0.ext E2).keep K3q (ninS ne_tn_b2 nin0)
  have f3_3 : Sta Z T3.heap "jdk/internal/util/Preconditions" "SIOOBE_FORMATTER" "Ljava/util/function/BiFunction;" fm := own_stakE (Sf0.ext E2) K3q (allS (own_nsE A2) all0)
  have f3_5 : Sta Z T3.heap "java/lang/Integer" "DigitOnes" "[B" (.ref dg) := own_stakE (Sd0.ext E2) K3q (allS (own_nsE A2) all0)
  have f3_6 : Tab Z T3.heap dg cld .byte (100 : Int32) := own_tabk (Td0.ext E2) K3q (ninS ne_dg_b2 nin0)
  have f3_7 : Exa Z T3.heap b2 "java/lang/StringBuilder" := A2.keep K3q
  have hk3 : 0 ≤ T3.heap.size := Nat.le_trans hk2 K3q.1
  have Z3 : n0 ≤ T3.heap.size := Nat.le_trans Z2 K3q.1
  refine own_go (fun _ k => st3.trans k) ?_
  have Hc4 : CHv Z consts_1 s.vm T3.heap := (H0c.ext E2).keep K3q (allS (Safe.exa hZ.alike A2 (by decide) (by decide)) all0)
  have sv4 : Safe Z consts_1 s.vm T3.heap bv := Safe.keep K3q (allS (Safe.exa hZ.alike A2 (by decide) (by decide)) all0) (H0c.ext E2) (Safe.new s_bv)
  obtain ⟨a4, T4, h4, k4, pc4, kp4, X4, e4, E4, Sn4, hk4, hZ4, hown4, Ea4, Fc4, Fv4, Va4, la4, lb4, Cr4, -, hne4, st4⟩ := ldcCH X3 hx hZ hown ow68 (own_sa hw) rfl Sn0 hk3 (own_EW hw) (List.mem_cons_self ..) Hc4 (vs := [(.int 116), (.int 121), (.int 112), (.int 101), (.int 32)]) (z := (5 : Int32)) ⟨by decide, rfl⟩ (by decide) rfl (g := (oF_tyN6 m 23 (oi 6) [(.ref b2)])) rfl (hb hby o35_23) (n := 20) (by decide) (by decide) (by decide) (by decide)
  refine own_go st4 ?_
  have Z4 : n0 ≤ h4.size := Nat.le_trans Z3 E4.1
  have sx4 := hne4 _ (Safe.exa hZ4.alike (f3_7.ext E4) (by decide) (by decide))
  have sy4 := hne4 _ (Cr4.safe p3_3.lt sv4)
  have sz4 := Exa.neArv Ea4 Va4 ow69
  obtain ⟨cq5, kq5, q5a, q5b, q5c⟩ := isOf hZ4 e4 (f3_7.ext E4)
  obtain ⟨_, _, ⟨T5, L5, k5, n5⟩, -, X5, ⟨Lc5, hQ5, l5, y5, z5⟩, st5⟩ := X4.virtualBack hx (y := (⟨"java/lang/StringBuilder", "append", "(Ljava/lang/String;)Ljava/lang/StringBuilder;"⟩ : MethodName)) (z := (⟨"java/lang/StringBuilder", "append", "(Ljava/lang/String;)Ljava/lang/StringBuilder;"⟩ : MethodName)) hown4 (mvT hZ4 ow72) (mvT hZ4 ow73) (notFace_of_selects (args := #[]) (mvT hZ4 ow75)) (mvT hZ4 ow75) (mvT hZ4 ow74) (by decide) (backOf (W := 0) (own_rm_apB l Z a0 hw [] b2 a4 cz pc4 bv kp4 kb (116 : Int32) (121 : Int32) (112 : Int32) (101 : Int32) (32 : Int32) h4 n0 Z4 (own_ndS (ninS sx4.1 (ninS sx4.2 (ninS ne_b2_bv nin0))) (own_ndS (ninS sz4 (ninS (Ne.symm sy4.1) nin0)) (own_ndS (ninS (Ne.symm sy4.2) nin0) (own_ndS nin0 List.nodup_nil)))) g_b2 g_bv (p3_4.ext E4) hcz (f3_7.ext E4) (p3_1.ext E4) (p3_0.ext E4) (p3_2.ext E4) Ea4 Fc4 Fv4 Va4 (p3_3.ext E4)) hZ4 ow76 ow49 (by decide) (by decide)) q5a q5c (g := (oF_tyN6 m 25 (oi 6) [(.ref a4), (.ref b2)])) rfl (by rw [hml]; rfl) (Steps.refl _) (argsL := [(.ref a4)]) (rest := []) (lenOf own_pd_28Ljava2flang2fString3b29Ljava2flang2fStringBuilder3b rfl) rfl (by show 2 * 0 + _ ≤ _; exact Nat.le_of_eq rfl) (hb hby o35_25) (fun _ _ => ⟨rfl, e4, (by decide : 4 + 0 ≤ _), (by decide : 44 + 0 ≤ _)⟩)
  dsimp only [Pt.U, Pt.locs, Pt.cells, Pt.slots] at X5 l5 y5 z5 st5 hQ5
  subst l5 y5 z5
  obtain ⟨rfl, N5q, K5q, p5_0, p5_1, p5_2, p5_3, p5_4⟩ := hQ5
  have N5 := Fr.app N3 N5q
  have f5_0 : Sta Z T5.heap "com/example/feeder/feeder/adapters/FrameFormat" "TYPE_NAMES" "[Ljava/lang/String;" (.ref tn) := own_stakE (f3_0.ext E4) K5q (allS (own_nsE (f3_7.ext E4)) (allS (own_nsV (p3_3.ext E4)) all0))
  have f5_1 : Arv Z T5.heap tn ktn (.object "java/lang/String") (6 : Int32) [(.ref s0n), (.ref s1n), (.ref s2n), (.ref s3n), (.ref s4n), (.ref s5n)] .null := (f3_1.ext E4).keep K5q (ninS ne_tn_b2 (ninS ne_tn_bv nin0))
  have f5_2 : Sta Z T5.heap "jdk/internal/util/Preconditions" "SIOOBE_FORMATTER" "Ljava/util/function/BiFunction;" fm := own_stakE (f3_3.ext E4) K5q (allS (own_nsE (f3_7.ext E4)) (allS (own_nsV (p3_3.ext E4)) all0))
  have f5_4 : Sta Z T5.heap "java/lang/Integer" "DigitOnes" "[B" (.ref dg) := own_stakE (f3_5.ext E4) K5q (allS (own_nsE (f3_7.ext E4)) (allS (own_nsV (p3_3.ext E4)) all0))
  have f5_5 : Tab Z T5.heap dg cld .byte (100 : Int32) := own_tabk (f3_6.ext E4) K5q (ninS ne_dg_b2 (ninS ne_dg_bv nin0))
  have f5_6 : Exa Z T5.heap b2 "java/lang/StringBuilder" := (f3_7.ext E4).keep K5q
  have f5_12 : Exa Z T5.heap a4 "java/lang/String" := Ea4.keep K5q
  have f5_13 : Fld Z T5.heap a4 "java/lang/String" "coder" "B" (.int 0) := Fc4.keep K5q (ninS (Ne.symm sx4.1) (ninS (Ne.symm sy4.1) nin0))
  have f5_14 : Fld Z T5.heap a4 "java/lang/String" "value" "[B" (.ref pc4) := Fv4.keep K5q (ninS (Ne.symm sx4.1) (ninS (Ne.symm sy4.1) nin0))
  have f5_15 : Arv Z T5.heap pc4 kp4 .byte (5 : Int32) [(.int 116), (.int 121), (.int 112), (.int 101), (.int 32)] (.int 0) := Va4.keep K5q (ninS (Ne.symm sx4.2) (ninS (Ne.symm sy4.2) nin0))
  have hk5 : k4 ≤ T5.heap.size := Nat.le_trans hk4 K5q.1
  have Z5 : n0 ≤ T5.heap.size := Nat.le_trans Z4 K5q.1
  refine own_go (fun _ k => st5.trans k) ?_
  refine own_go (A := oW p e below T5 (oF_tyN6 m 29 (oi 6) [(.int 6), (.ref b2)])) (fun t k => by
    refine XS.iloadN X5.here hx rfl (hb hby o35_28) rfl ?_
    exact k) ?_
  obtain ⟨cq6, kq6, q6a, q6b, q6c⟩ := isOf hZ4 rfl f5_6
  obtain ⟨_, _, ⟨T6, L6, k6, n6⟩, -, X6, ⟨Lc6, hQ6, l6, y6, z6⟩, st6⟩ := X5.virtualBack hx (y := (⟨"java/lang/StringBuilder", "append", "(I)Ljava/lang/StringBuilder;"⟩ : MethodName)) (z := (⟨"java/lang/StringBuilder", "append", "(I)Ljava/lang/StringBuilder;"⟩ : MethodName)) hown4 (mvT hZ4 ow110) (mvT hZ4 ow111) (notFace_of_selects (args := #[]) (mvT hZ4 ow113)) (mvT hZ4 ow113) (mvT hZ4 ow112) (by decide) (backOf (W := 0) (own_rm_apJ6 l Z a0 hw [] b2 cz dg bv cld kb (116 : Int32) (121 : Int32) (112 : Int32) (101 : Int32) (32 : Int32) T5.heap n0 Z5 (own_ndS (ninS (Ne.symm ne_dg_b2) (ninS ne_b2_bv nin0)) (own_ndS (ninS ne_dg_bv nin0) (own_ndS nin0 List.nodup_nil))) g_b2 g_bv p5_4 hcz f5_4 f5_5 f5_6 p5_1 p5_0 p5_2 p5_3) hZ4 ow114 ow49 (by decide) (by decide)) q6a q6c (g := (oF_tyN6 m 29 (oi 6) [(.int 6), (.ref b2)])) rfl (by rw [hml]; rfl) (Steps.refl _) (argsL := [(.int 6)]) (rest := []) (lenOf own_pd_28I29Ljava2flang2fStringBuilder3b rfl) rfl (by show 2 * 0 + _ ≤ _; exact Nat.le_of_eq rfl) (hb hby o35_29) (fun _ _ => ⟨rfl, rfl, (by decide : 4 + 0 ≤ _), (by decide : 44 + 0 ≤ _)⟩)
  dsimp only [Pt.U, Pt.locs, Pt.cells, Pt.slots] at X6 l6 y6 z6 st6 hQ6
  subst l6 y6 z6
  obtain ⟨rfl, N6q, K6q, p6_0, p6_1, p6_2, p6_3, p6_4⟩ := hQ6
  have N6 := Fr.app N5 N6q
  have f6_0 : Sta Z T6.heap "com/example/feeder/feeder/adapters/FrameFormat" "TYPE_NAMES" "[Ljava/lang/String;" (.ref tn) := own_stakE f5_0 K6q (allS (own_nsE f5_6) (allS (own_nsV p5_3) all0))
  have f6_1 : Arv Z T6.heap tn ktn (.object "java/lang/String") (6 : Int32) [(.ref s0n), (.ref s1n), (.ref s2n), (.ref s3n), (.ref s4n), (.ref s5n)] .null := f5_1.keep K6q (ninS ne_tn_b2 (ninS ne_tn_bv nin0))
  have f6_2 : Sta Z T6.heap "jdk/internal/util/Preconditions" "SIOOBE_FORMATTER" "Ljava/util/function/BiFunction;" fm := own_stakE f5_2 K6q (allS (own_nsE f5_6) (allS (own_nsV p5_3) all0))
  have f6_4 : Sta Z T6.heap "java/lang/Integer" "DigitOnes" "[B" (.ref dg) := own_stakE f5_4 K6q (allS (own_nsE f5_6) (allS (own_nsV p5_3) all0))
  have f6_5 : Tab Z T6.heap dg cld .byte (100 : Int32) := own_tabk f5_5 K6q (ninS ne_dg_b2 (ninS ne_dg_bv nin0))
  have f6_6 : Exa Z T6.heap b2 "java/lang/StringBuilder" := f5_6.keep K6q
  have f6_7 : Exa Z T6.heap a4 "java/lang/String" := f5_12.keep K6q
  have f6_8 : Fld Z T6.heap a4 "java/lang/String" "coder" "B" (.int 0) := f5_13.keep K6q (ninS (Ne.symm sx4.1) (ninS (Ne.symm sy4.1) nin0))
  have f6_9 : Fld Z T6.heap a4 "java/lang/String" "value" "[B" (.ref pc4) := f5_14.keep K6q (ninS (Ne.symm sx4.1) (ninS (Ne.symm sy4.1) nin0))
  have f6_10 : Arv Z T6.heap pc4 kp4 .byte (5 : Int32) [(.int 116), (.int 121), (.int 112), (.int 101), (.int 32)] (.int 0) := f5_15.keep K6q (ninS (Ne.symm sx4.2) (ninS (Ne.symm sy4.2) nin0))
  have hk6 : k4 ≤ T6.heap.size := Nat.le_trans hk5 K6q.1
  have Z6 : n0 ≤ T6.heap.size := Nat.le_trans Z5 K6q.1
  refine own_go (fun _ k => st6.trans k) ?_
  obtain ⟨cq7, kq7, q7a, q7b, q7c⟩ := isOf hZ4 rfl f6_6
  obtain ⟨_, _, ⟨T7, L7, k7, n7⟩, -, X7, ⟨Lc7, hQ7, l7, y7, z7⟩, st7⟩ := X6.virtualBack hx (y := (⟨"java/lang/StringBuilder", "toString", "()Ljava/lang/String;"⟩ : MethodName)) (z := (⟨"java/lang/StringBuilder", "toString", "()Ljava/lang/String;"⟩ : MethodName)) hown4 (mvT hZ4 ow132) (mvT hZ4 ow133) (notFace_of_selects (args := #[]) (mvT hZ4 ow135)) (mvT hZ4 ow135) (mvT hZ4 ow134) (by decide) (backOf (W := 0) (own_rm_toS l Z a0 hw [] b2 cz bv kb (116 : Int32) (121 : Int32) (112 : Int32) (101 : Int32) (32 : Int32) (nar .byte (atv cld (6 : Int32))) T6.heap n0 Z6 (own_ndS (ninS ne_b2_bv nin0) (own_ndS nin0 List.nodup_nil)) p6_4 hcz f6_6 p6_1 p6_0 p6_2 p6_3) hZ4 ow136 ow49 (by decide) (by decide)) q7a q7c (g := (oF_tyN6 m 32 (oi 6) [(.ref b2)])) rfl (by rw [hml]; rfl) (Steps.refl _) (argsL := []) (rest := []) (lenOf own_pd_2829Ljava2flang2fString3b rfl) rfl (by show 2 * 0 + _ ≤ _; exact Nat.le_of_eq rfl) (hb hby o35_32) (fun _ _ => ⟨rfl, rfl, (by decide : 4 + 2 ≤ _), (by decide : 44 + 10 ≤ _)⟩)
  dsimp only [Pt.U, Pt.locs, Pt.cells, Pt.slots] at X7 l7 y7 z7 st7 hQ7
  subst l7 y7 z7
  obtain ⟨so, nb, kn, rfl, N7q, K7q, s_so, s_nb, ne_so_nb, p7_0, p7_1, p7_2, p7_3, p7_4⟩ := hQ7
  have N7 := Fr.app N6 N7q
  have f7_0 : Sta Z T7.heap "com/example/feeder/feeder/adapters/FrameFormat" "TYPE_NAMES" "[Ljava/lang/String;" (.ref tn) := own_stakE f6_0 K7q all0
  have f7_1 : Arv Z T7.heap tn ktn (.object "java/lang/String") (6 : Int32) [(.ref s0n), (.ref s1n), (.ref s2n), (.ref s3n), (.ref s4n), (.ref s5n)] .null := f6_1.keep K7q nin0
  have f7_2 : Sta Z T7.heap "jdk/internal/util/Preconditions" "SIOOBE_FORMATTER" "Ljava/util/function/BiFunction;" fm := own_stakE f6_2 K7q all0
  have f7_4 : Sta Z T7.heap "java/lang/Integer" "DigitOnes" "[B" (.ref dg) := own_stakE f6_4 K7q all0
  have f7_5 : Tab Z T7.heap dg cld .byte (100 : Int32) := own_tabk f6_5 K7q nin0
  have f7_6 : Exa Z T7.heap b2 "java/lang/StringBuilder" := f6_6.keep K7q
  have f7_7 : Exa Z T7.heap a4 "java/lang/String" := f6_7.keep K7q
  have f7_8 : Fld Z T7.heap a4 "java/lang/String" "coder" "B" (.int 0) := f6_8.keep K7q nin0
  have f7_9 : Fld Z T7.heap a4 "java/lang/String" "value" "[B" (.ref pc4) := f6_9.keep K7q nin0
  have f7_10 : Arv Z T7.heap pc4 kp4 .byte (5 : Int32) [(.int 116), (.int 121), (.int 112), (.int 101), (.int 32)] (.int 0) := f6_10.keep K7q nin0
  have f7_11 : Fld Z T7.heap b2 "java/lang/AbstractStringBuilder" "value" "[B" (.ref bv) := p6_0.keep K7q nin0
  have f7_12 : Fld Z T7.heap b2 "java/lang/AbstractStringBuilder" "coder" "B" (.int 0) := p6_1.keep K7q nin0
  have f7_13 : Fld Z T7.heap b2 "java/lang/AbstractStringBuilder" "count" "I" (.int 6) := p6_2.keep K7q nin0
  have f7_14 : Arv Z T7.heap bv kb .byte (16 : Int32) [(.int 116), (.int 121), (.int 112), (.int 101), (.int 32), (.int (nar .byte (atv cld (6 : Int32)))), (.int 0), (.int 0), (.int 0), (.int 0), (.int 0), (.int 0), (.int 0), (.int 0), (.int 0), (.int 0)] (.int 0) := p6_3.keep K7q nin0
  have hk7 : k4 ≤ T7.heap.size := Nat.le_trans hk6 K7q.1
  have Z7 : n0 ≤ T7.heap.size := Nat.le_trans Z6 K7q.1
  refine own_go (fun _ k => st7.trans k) ?_
  obtain ⟨fs, hr, hrun, hended, hRW⟩ := X7.leaveW Sn4 hk7 (v := some (.ref so)) (fun h => by rw [Bd.returns] at h; cases h)
  refine ⟨_, _, retOut X7 hx Bd.returns rfl (Or.inr (Or.inr (Or.inr (Or.inr ⟨rfl, rfl, rfl⟩)))) (hb hby o35_35) hr, hPf _ _ ⟨hrun, hended, _, _, rfl, ?_, hRW.1, hRW.2.1, hRW.2.2.1, hRW.2.2.2.mono (by decide) (by decide)⟩⟩
  show own_Q_tyN6 Z tn ktn s0n s1n s2n s3n s4n s5n cz fm dg cld h0 n0 _ T7.heap _
  exact ⟨so, nb, kn, rfl, N7, p7_0, p7_1, p7_2, p7_3, p7_4, f7_2⟩
abbrev oF_tyN7 (m : MethodId) (pc : Nat) (a0 : Slot) (S : List Value) : JFrame := mkF m pc #[a0] S
theorem own_ef_tyN7 (m : MethodId) (x0 : Int32) : entryFrame m #[(.int x0)] 1 = mkF m 0 #[(oi x0)] [] := by first | (simp [entryFrame, mkF, argsToLocals, Value.category]; done) | rfl
def own_Q_tyN7 (Z : State) (tn : Addr) (ktn : ClassId) (s0n s1n s2n s3n s4n s5n : Addr) (cz : Int32) (fm : Value) (dg : Addr) (cld : Cell) (h0 : Heap) (n0 : Nat) (v : Option Value) (h : Heap) (L : List Loc) : Prop := ∃ (so nb : Addr) (kn : ClassId), v = some (.ref so) ∧ Fr n0 L ∧ Exa Z h so "java/lang/String" ∧ Fld Z h so "java/lang/String" "coder" "B" (.int 0) ∧ Fld Z h so "java/lang/String" "value" "[B" (.ref nb) ∧ Arv Z h nb kn .byte (6 : Int32) [(.int 116), (.int 121), (.int 112), (.int 101), (.int 32), (.int (nar .byte (atv cld (7 : Int32))))] (.int 0) ∧ Sta Z h "java/lang/String" "COMPACT_STRINGS" "Z" (.int cz) ∧ Sta Z h "jdk/internal/util/Preconditions" "SIOOBE_FORMATTER" "Ljava/util/function/BiFunction;" fm
set_option maxRecDepth 65536 in
set_option maxHeartbeats 40000000 in
theorem own_rm_tyN7 (l : Launch) (Z : State) (a0 : Array Value) (hw : ∀ d ∈ tables_1, d.before a0 Z = true) (ws : List Jvm.Cond) (tn : Addr) (ktn : ClassId) (s0n s1n s2n s3n s4n s5n : Addr) (cz : Int32) (fm : Value) (dg : Addr) (cld : Cell) (h0 : Heap) (n0 : Nat) (Z0 : n0 ≤ h0.size) (St0 : Sta Z h0 "com/example/feeder/feeder/adapters/FrameFormat" "TYPE_NAMES" "[Ljava/lang/String;" (.ref tn)) (Vt0 : Arv Z h0 tn ktn (.object "java/lang/String") (6 : Int32) [(.ref s0n), (.ref s1n), (.ref s2n), (.ref s3n), (.ref s4n), (.ref s5n)] .null) (Sc0 : Sta Z h0 "java/lang/String" "COMPACT_STRINGS" "Z" (.int cz)) (hcz : ¬ cz = (0 : Int32)) (Sf0 : Sta Z h0 "jdk/internal/util/Preconditions" "SIOOBE_FORMATTER" "Ljava/util/function/BiFunction;" fm) (hfm : fm.isRef = true) (Sd0 : Sta Z h0 "java/lang/Integer" "DigitOnes" "[B" (.ref dg)) (Td0 : Tab Z h0 dg cld .byte (100 : Int32)) :
    MetFree l (⟨"com/example/feeder/feeder/adapters/FrameFormat", "typeName", "(I)Ljava/lang/String;"⟩ : MethodName) (head1 (Jvm.Cond.code (⟨"com/example/feeder/feeder/adapters/FrameFormat", "typeName", "(I)Ljava/lang/String;"⟩ : MethodName) prog_3_method_5_code 1 (some (.object "java/lang/String")) :: ws) ({ frames := 6, cells := 6, slots := 54, locals := 137 } : Room)) (fun a U => a = #[(.int 7)] ∧ Z.Warmed39 U.vm ∧ U.heap = h0 ∧ CHv Z consts_1 U.vm h0) (fun _ _ _ _ _ => True) (fun _ U o U' => ∃ v L, o = .returned v ∧ own_Q_tyN7 Z tn ktn s0n s1n s2n s3n s4n s5n cz fm dg cld h0 n0 v U'.heap L ∧ ReturnedEndW U o U' L ({ frames := 6, cells := 6, slots := 54, locals := 137 } : Room).cells ({ frames := 6, cells := 6, slots := 54, locals := 137 } : Room).slots) := by
  refine MetFree.of_bodySF (plainFor_of_name own_pn_com_example_feeder_feeder_adapters_FrameFormat) hisR ?_
  intro p e s m args below meth c s₁ Bd hml0 hP hKq_
  obtain ⟨rfl, hZ, hh, H0c⟩ := hP
  have hx := Bd.exec
  have hby := Bd.bytes
  have hml : c.maxLocals = 1 := hml0
  have hown : s.vm.findClass "com/example/feeder/feeder/adapters/FrameFormat" = some m.cls := findClass_of_methodNamed Bd.named
  have hnm := (name_of_methodNamed Bd.named Bd.method).1
  have ow7 := hw _ (List.mem_of_getElem? (i := 7) rfl)
  have ow47 := hw _ (List.mem_of_getElem? (i := 47) rfl)
  have ow48 := hw _ (List.mem_of_getElem? (i := 48) rfl)
  have ow49 := hw _ (List.mem_of_getElem? (i := 49) rfl)
  have ow50 := hw _ (List.mem_of_getElem? (i := 50) rfl)
  have ow51 := hw _ (List.mem_of_getElem? (i := 51) rfl)
  have ow52 := hw _ (List.mem_of_getElem? (i := 52) rfl)
  have ow65 := hw _ (List.mem_of_getElem? (i := 65) rfl)
  have ow67 := hw _ (List.mem_of_getElem? (i := 67) rfl)
  have ow68 := hw _ (List.mem_of_getElem? (i := 68) rfl)
  have ow69 := hw _ (List.mem_of_getElem? (i := 69) rfl)
  have ow72 := hw _ (List.mem_of_getElem? (i := 72) rfl)
  have ow73 := hw _ (List.mem_of_getElem? (i := 73) rfl)
  have ow74 := hw _ (List.mem_of_getElem? (i := 74) rfl)
  have ow75 := hw _ (List.mem_of_getElem? (i := 75) rfl)
  have ow76 := hw _ (List.mem_of_getElem? (i := 76) rfl)
  have ow84 := hw _ (List.mem_of_getElem? (i := 84) rfl)
  have ow110 := hw _ (List.mem_of_getElem? (i := 110) rfl)
  have ow111 := hw _ (List.mem_of_getElem? (i := 111) rfl)
  have ow112 := hw _ (List.mem_of_getElem? (i := 112) rfl)
  have ow113 := hw _ (List.mem_of_getElem? (i := 113) rfl)
  have ow114 := hw _ (List.mem_of_getElem? (i := 114) rfl)
  have ow132 := hw _ (List.mem_of_getElem? (i := 132) rfl)
  have ow133 := hw _ (List.mem_of_getElem? (i := 133) rfl)
  have ow134 := hw _ (List.mem_of_getElem? (i := 134) rfl)
  have ow135 := hw _ (List.mem_of_getElem? (i := 135) rfl)
  have ow136 := hw _ (List.mem_of_getElem? (i := 136) rfl)
  have X0 : Stand p l e ({ frames := 6, cells := 6, slots := 54, locals := 137 } : Room) (s.setVm s.vm) m #[(.int 7)] below meth c s₁ [] 0 0 := Stand.of_body Bd
  have e0 : s₁.heap = h0 := by rw [← hh, Bd.state]; rfl
  have N0 := Fr.nil n0
  have pre0 : ∀ t, Steps p.tables e below (s₁.setTop (mkF m 0 #[(oi 7)] [])) t → Steps p.tables e below (s₁.setTop (entryFrame m #[(.int 7)] 1)) t := fun t k => castTop (own_ef_tyN7 m (7 : Int32)) k
  refine own_go pre0 ?_
  refine own_abs ?_
  intro Pf hPf
  have hZ : Z.Warmed39 (s.setVm s.vm).vm := hZ
  have hown : (s.setVm s.vm).vm.findClass "com/example/feeder/feeder/adapters/FrameFormat" = some m.cls := hown
  have Sn0 : s.Since s.vm 0 := (State.WarmedH.refl s).since 0
  have hk0 : 0 ≤ h0.size := Nat.zero_le _
  refine own_go (A := oW p e below s₁ (oF_tyN7 m 1 (oi 7) [(.int 7)])) (fun t k => by
    refine XS.iloadN X0.here hx rfl (hb hby o35_0) rfl ?_
    exact k) ?_
  obtain ⟨T1, X1, e1, st1⟩ := getS2 X0 hx hZ hown (host := "") (Or.inl ow7) Via.refl e0 St0 (g := (oF_tyN7 m 1 (oi 7) [(.int 7)])) rfl (hb hby o35_1)
  refine own_go st1 ?_
  refine own_go (A := oW p e below T1 (oF_tyN7 m 16 (oi 7) [])) (fun t k => by
    refine own_len2 X1 hx hZ e1 Vt0 (g := (oF_tyN7 m 4 (oi 7) [(.ref tn), (.int 7)])) rfl rfl (hb hby o35_4) _ ?_
    show oW p e below T1 (oF_tyN7 m 5 (oi 7) [(.int 6), (.int 7)]) _
    refine XS.icmpYes X1.here hx rfl (pc0 := 5) (pc' := 16) rfl (hb hby o35_5) rfl (flt (by decide : ¬ ((7 : Int32) < (6 : Int32)))).2.1 (by decide) (by decide) ?_
    exact k) ?_
  obtain ⟨T2, h2, X2, e2, E2, A2, D2, -, st2⟩ := newO X1 hx hZ hown ow47 ow48 ow49 e1 (g := (oF_tyN7 m 16 (oi 7) [])) rfl (hb hby o35_16) (by decide) (by decide)
  obtain ⟨b2, g2⟩ : ∃ z, z = h0.size := ⟨_, rfl⟩
  rw [← g2] at A2 D2 st2
  refine own_go st2 ?_
  have ne_dg_b2 : dg ≠ b2 := Nat.ne_of_lt (Nat.lt_of_lt_of_le Td0.lt (Nat.le_of_eq g2.symm))
  have ne_tn_b2 : tn ≠ b2 := Nat.ne_of_lt (Nat.lt_of_lt_of_le Vt0.lt (Nat.le_of_eq g2.symm))
  have g_b2 : n0 ≤ b2 := Nat.le_trans Z0 (Nat.le_of_eq g2.symm)
  have hk2 : 0 ≤ h2.size := Nat.le_trans hk0 E2.1
  have Z2 : n0 ≤ h2.size := Nat.le_trans Z0 E2.1
  have F2_value : Fld Z h2 b2 "java/lang/AbstractStringBuilder" "value" "[B" .null := D2 (Or.inl ow65) (ty := (.array .byte)) (by decide)
  have F2_coder : Fld Z h2 b2 "java/lang/AbstractStringBuilder" "coder" "B" (.int 0) := D2 (Or.inl ow67) (ty := .byte) (by decide)
  have F2_count : Fld Z h2 b2 "java/lang/AbstractStringBuilder" "count" "I" (.int 0) := D2 (Or.inl ow84) (ty := .int) (by decide)
  refine own_go (A := oW p e below T2 (oF_tyN7 m 20 (oi 7) [(.ref b2), (.ref b2)])) (fun t k => by
    refine XS.dup X2.here hx rfl (hb hby o35_19) rfl rfl ?_
    exact k) ?_
  obtain ⟨_, _, ⟨T3, L3, k3, n3⟩, -, X3, ⟨Lc3, hQ3, l3, y3, z3⟩, st3⟩ := X2.specialBack hx (y := (⟨"java/lang/StringBuilder", "<init>", "()V"⟩ : MethodName)) rfl hown (mvT hZ ow50) (mvT hZ ow51) (mvT hZ ow52) (by decide) (backOf (W := 1) (own_rm_sbI l Z a0 hw [] b2 cz h2 n0 Z2 A2 F2_value F2_coder F2_count g_b2 (Sc0.ext E2) hcz) hZ ow52 ow49 (by decide) (by decide)) (g := (oF_tyN7 m 20 (oi 7) [(.ref b2), (.ref b2)])) rfl (by rw [hml]; rfl) (Steps.refl _) (a := b2) (argsL := []) (rest := [(.ref b2)]) (lenOf own_pd_2829V rfl) rfl (by show 2 * 0 + _ ≤ _; exact Nat.le_of_eq rfl) (hb hby o35_20) (fun _ _ => ⟨rfl, e2, (by decide : 1 + 1 ≤ _), (by decide : 4 + 16 ≤ _)⟩)
  dsimp only [Pt.U, Pt.locs, Pt.cells, Pt.slots] at X3 l3 y3 z3 st3 hQ3
  subst l3 y3 z3
  obtain ⟨bv, kb, rfl, N3q, K3q, s_bv, p3_0, p3_1, p3_2, p3_3, p3_4⟩ := hQ3
  have N3 := Fr.app N0 N3q
  have g_bv : n0 ≤ bv := Nat.le_trans Z2 s_bv
  have ne_dg_bv : dg ≠ bv := Nat.ne_of_lt (Nat.lt_of_lt_of_le (Td0.ext E2).lt s_bv)
  have ne_tn_bv : tn ≠ bv := Nat.ne_of_lt (Nat.lt_of_lt_of_le (Vt0.ext E2).lt s_bv)
  have ne_b2_bv : b2 ≠ bv := Nat.ne_of_lt (Nat.lt_of_lt_of_le A2.lt s_bv)
  have f3_0 : Sta Z T3.heap "com/example/feeder/feeder/adapters/FrameFormat" "TYPE_NAMES" "[Ljava/lang/String;" (.ref tn) := own_stakE (St0.ext E2) K3q (allS (own_nsE A2) all0)
  have f3_1 : Arv Z T3.heap tn ktn (.object "java/lang/String") (6 : Int32) [(.ref s0n), (.ref s1n), (.ref s2n), (.ref s3n), (.ref s4n), (.ref s5n)] .null := (Vt0.ext E2).keep K3q (ninS ne_tn_b2 nin0)
  have f3_3 : Sta Z T3.heap "jdk/internal/util/Preconditions" "SIOOBE_FORMATTER" "Ljava/util/function/BiFunction;" fm := own_stakE (Sf0.ext E2) K3q (allS (own_nsE A2) all0)
  have f3_5 : Sta Z T3.heap "java/lang/Integer" "DigitOnes" "[B" (.ref dg) := own_stakE (Sd0.ext E2) K3q (allS (own_nsE A2) all0)
  have f3_6 : Tab Z T3.heap dg cld .byte (100 : Int32) := own_tabk (Td0.ext E2) K3q (ninS ne_dg_b2 nin0)
  have f3_7 : Exa Z T3.heap b2 "java/lang/StringBuilder" := A2.keep K3q
  have hk3 : 0 ≤ T3.heap.size := Nat.le_trans hk2 K3q.1
  have Z3 : n0 ≤ T3.heap.size := Nat.le_trans Z2 K3q.1
  refine own_go (fun _ k => st3.trans k) ?_
  have Hc4 : CHv Z consts_1 s.vm T3.heap := (H0c.ext E2).keep K3q (allS (Safe.exa hZ.alike A2 (by decide) (by decide)) all0)
  have sv4 : Safe Z consts_1 s.vm T3.heap bv := Safe.keep K3q (allS (Safe.exa hZ.alike A2 (by decide) (by decide)) all0) (H0c.ext E2) (Safe.new s_bv)
  obtain ⟨a4, T4, h4, k4, pc4, kp4, X4, e4, E4, Sn4, hk4, hZ4, hown4, Ea4, Fc4, Fv4, Va4, la4, lb4, Cr4, -, hne4, st4⟩ := ldcCH X3 hx hZ hown ow68 (own_sa hw) rfl Sn0 hk3 (own_EW hw) (List.mem_cons_self ..) Hc4 (vs := [(.int 116), (.int 121), (.int 112), (.int 101), (.int 32)]) (z := (5 : Int32)) ⟨by decide, rfl⟩ (by decide) rfl (g := (oF_tyN7 m 23 (oi 7) [(.ref b2)])) rfl (hb hby o35_23) (n := 20) (by decide) (by decide) (by decide) (by decide)
  refine own_go st4 ?_
  have Z4 : n0 ≤ h4.size := Nat.le_trans Z3 E4.1
  have sx4 := hne4 _ (Safe.exa hZ4.alike (f3_7.ext E4) (by decide) (by decide))
  have sy4 := hne4 _ (Cr4.safe p3_3.lt sv4)
  have sz4 := Exa.neArv Ea4 Va4 ow69
  obtain ⟨cq5, kq5, q5a, q5b, q5c⟩ := isOf hZ4 e4 (f3_7.ext E4)
  obtain ⟨_, _, ⟨T5, L5, k5, n5⟩, -, X5, ⟨Lc5, hQ5, l5, y5, z5⟩, st5⟩ := X4.virtualBack hx (y := (⟨"java/lang/StringBuilder", "append", "(Ljava/lang/String;)Ljava/lang/StringBuilder;"⟩ : MethodName)) (z := (⟨"java/lang/StringBuilder", "append", "(Ljava/lang/String;)Ljava/lang/StringBuilder;"⟩ : MethodName)) hown4 (mvT hZ4 ow72) (mvT hZ4 ow73) (notFace_of_selects (args := #[]) (mvT hZ4 ow75)) (mvT hZ4 ow75) (mvT hZ4 ow74) (by decide) (backOf (W := 0) (own_rm_apB l Z a0 hw [] b2 a4 cz pc4 bv kp4 kb (116 : Int32) (121 : Int32) (112 : Int32) (101 : Int32) (32 : Int32) h4 n0 Z4 (own_ndS (ninS sx4.1 (ninS sx4.2 (ninS ne_b2_bv nin0))) (own_ndS (ninS sz4 (ninS (Ne.symm sy4.1) nin0)) (own_ndS (ninS (Ne.symm sy4.2) nin0) (own_ndS nin0 List.nodup_nil)))) g_b2 g_bv (p3_4.ext E4) hcz (f3_7.ext E4) (p3_1.ext E4) (p3_0.ext E4) (p3_2.ext E4) Ea4 Fc4 Fv4 Va4 (p3_3.ext E4)) hZ4 ow76 ow49 (by decide) (by decide)) q5a q5c (g := (oF_tyN7 m 25 (oi 7) [(.ref a4), (.ref b2)])) rfl (by rw [hml]; rfl) (Steps.refl _) (argsL := [(.ref a4)]) (rest := []) (lenOf own_pd_28Ljava2flang2fString3b29Ljava2flang2fStringBuilder3b rfl) rfl (by show 2 * 0 + _ ≤ _; exact Nat.le_of_eq rfl) (hb hby o35_25) (fun _ _ => ⟨rfl, e4, (by decide : 4 + 0 ≤ _), (by decide : 44 + 0 ≤ _)⟩)
  dsimp only [Pt.U, Pt.locs, Pt.cells, Pt.slots] at X5 l5 y5 z5 st5 hQ5
  subst l5 y5 z5
  obtain ⟨rfl, N5q, K5q, p5_0, p5_1, p5_2, p5_3, p5_4⟩ := hQ5
  have N5 := Fr.app N3 N5q
  have f5_0 : Sta Z T5.heap "com/example/feeder/feeder/adapters/FrameFormat" "TYPE_NAMES" "[Ljava/lang/String;" (.ref tn) := own_stakE (f3_0.ext E4) K5q (allS (own_nsE (f3_7.ext E4)) (allS (own_nsV (p3_3.ext E4)) all0))
  have f5_1 : Arv Z T5.heap tn ktn (.object "java/lang/String") (6 : Int32) [(.ref s0n), (.ref s1n), (.ref s2n), (.ref s3n), (.ref s4n), (.ref s5n)] .null := (f3_1.ext E4).keep K5q (ninS ne_tn_b2 (ninS ne_tn_bv nin0))
  have f5_2 : Sta Z T5.heap "jdk/internal/util/Preconditions" "SIOOBE_FORMATTER" "Ljava/util/function/BiFunction;" fm := own_stakE (f3_3.ext E4) K5q (allS (own_nsE (f3_7.ext E4)) (allS (own_nsV (p3_3.ext E4)) all0))
  have f5_4 : Sta Z T5.heap "java/lang/Integer" "DigitOnes" "[B" (.ref dg) := own_stakE (f3_5.ext E4) K5q (allS (own_nsE (f3_7.ext E4)) (allS (own_nsV (p3_3.ext E4)) all0))
  have f5_5 : Tab Z T5.heap dg cld .byte (100 : Int32) := own_tabk (f3_6.ext E4) K5q (ninS ne_dg_b2 (ninS ne_dg_bv nin0))
  have f5_6 : Exa Z T5.heap b2 "java/lang/StringBuilder" := (f3_7.ext E4).keep K5q
  have f5_12 : Exa Z T5.heap a4 "java/lang/String" := Ea4.keep K5q
  have f5_13 : Fld Z T5.heap a4 "java/lang/String" "coder" "B" (.int 0) := Fc4.keep K5q (ninS (Ne.symm sx4.1) (ninS (Ne.symm sy4.1) nin0))
  have f5_14 : Fld Z T5.heap a4 "java/lang/String" "value" "[B" (.ref pc4) := Fv4.keep K5q (ninS (Ne.symm sx4.1) (ninS (Ne.symm sy4.1) nin0))
  have f5_15 : Arv Z T5.heap pc4 kp4 .byte (5 : Int32) [(.int 116), (.int 121), (.int 112), (.int 101), (.int 32)] (.int 0) := Va4.keep K5q (ninS (Ne.symm sx4.2) (ninS (Ne.symm sy4.2) nin0))
  have hk5 : k4 ≤ T5.heap.size := Nat.le_trans hk4 K5q.1
  have Z5 : n0 ≤ T5.heap.size := Nat.le_trans Z4 K5q.1
  refine own_go (fun _ k => st5.trans k) ?_
  refine own_go (A := oW p e below T5 (oF_tyN7 m 29 (oi 7) [(.int 7), (.ref b2)])) (fun t k => by
    refine XS.iloadN X5.here hx rfl (hb hby o35_28) rfl ?_
    exact k) ?_
  obtain ⟨cq6, kq6, q6a, q6b, q6c⟩ := isOf hZ4 rfl f5_6
  obtain ⟨_, _, ⟨T6, L6, k6, n6⟩, -, X6, ⟨Lc6, hQ6, l6, y6, z6⟩, st6⟩ := X5.virtualBack hx (y := (⟨"java/lang/StringBuilder", "append", "(I)Ljava/lang/StringBuilder;"⟩ : MethodName)) (z := (⟨"java/lang/StringBuilder", "append", "(I)Ljava/lang/StringBuilder;"⟩ : MethodName)) hown4 (mvT hZ4 ow110) (mvT hZ4 ow111) (notFace_of_selects (args := #[]) (mvT hZ4 ow113)) (mvT hZ4 ow113) (mvT hZ4 ow112) (by decide) (backOf (W := 0) (own_rm_apJ7 l Z a0 hw [] b2 cz dg bv cld kb (116 : Int32) (121 : Int32) (112 : Int32) (101 : Int32) (32 : Int32) T5.heap n0 Z5 (own_ndS (ninS (Ne.symm ne_dg_b2) (ninS ne_b2_bv nin0)) (own_ndS (ninS ne_dg_bv nin0) (own_ndS nin0 List.nodup_nil))) g_b2 g_bv p5_4 hcz f5_4 f5_5 f5_6 p5_1 p5_0 p5_2 p5_3) hZ4 ow114 ow49 (by decide) (by decide)) q6a q6c (g := (oF_tyN7 m 29 (oi 7) [(.int 7), (.ref b2)])) rfl (by rw [hml]; rfl) (Steps.refl _) (argsL := [(.int 7)]) (rest := []) (lenOf own_pd_28I29Ljava2flang2fStringBuilder3b rfl) rfl (by show 2 * 0 + _ ≤ _; exact Nat.le_of_eq rfl) (hb hby o35_29) (fun _ _ => ⟨rfl, rfl, (by decide : 4 + 0 ≤ _), (by decide : 44 + 0 ≤ _)⟩)
  dsimp only [Pt.U, Pt.locs, Pt.cells, Pt.slots] at X6 l6 y6 z6 st6 hQ6
  subst l6 y6 z6
  obtain ⟨rfl, N6q, K6q, p6_0, p6_1, p6_2, p6_3, p6_4⟩ := hQ6
  have N6 := Fr.app N5 N6q
  have f6_0 : Sta Z T6.heap "com/example/feeder/feeder/adapters/FrameFormat" "TYPE_NAMES" "[Ljava/lang/String;" (.ref tn) := own_stakE f5_0 K6q (allS (own_nsE f5_6) (allS (own_nsV p5_3) all0))
  have f6_1 : Arv Z T6.heap tn ktn (.object "java/lang/String") (6 : Int32) [(.ref s0n), (.ref s1n), (.ref s2n), (.ref s3n), (.ref s4n), (.ref s5n)] .null := f5_1.keep K6q (ninS ne_tn_b2 (ninS ne_tn_bv nin0))
  have f6_2 : Sta Z T6.heap "jdk/internal/util/Preconditions" "SIOOBE_FORMATTER" "Ljava/util/function/BiFunction;" fm := own_stakE f5_2 K6q (allS (own_nsE f5_6) (allS (own_nsV p5_3) all0))
  have f6_4 : Sta Z T6.heap "java/lang/Integer" "DigitOnes" "[B" (.ref dg) := own_stakE f5_4 K6q (allS (own_nsE f5_6) (allS (own_nsV p5_3) all0))
  have f6_5 : Tab Z T6.heap dg cld .byte (100 : Int32) := own_tabk f5_5 K6q (ninS ne_dg_b2 (ninS ne_dg_bv nin0))
  have f6_6 : Exa Z T6.heap b2 "java/lang/StringBuilder" := f5_6.keep K6q
  have f6_7 : Exa Z T6.heap a4 "java/lang/String" := f5_12.keep K6q
  have f6_8 : Fld Z T6.heap a4 "java/lang/String" "coder" "B" (.int 0) := f5_13.keep K6q (ninS (Ne.symm sx4.1) (ninS (Ne.symm sy4.1) nin0))
  have f6_9 : Fld Z T6.heap a4 "java/lang/String" "value" "[B" (.ref pc4) := f5_14.keep K6q (ninS (Ne.symm sx4.1) (ninS (Ne.symm sy4.1) nin0))
  have f6_10 : Arv Z T6.heap pc4 kp4 .byte (5 : Int32) [(.int 116), (.int 121), (.int 112), (.int 101), (.int 32)] (.int 0) := f5_15.keep K6q (ninS (Ne.symm sx4.2) (ninS (Ne.symm sy4.2) nin0))
  have hk6 : k4 ≤ T6.heap.size := Nat.le_trans hk5 K6q.1
  have Z6 : n0 ≤ T6.heap.size := Nat.le_trans Z5 K6q.1
  refine own_go (fun _ k => st6.trans k) ?_
  obtain ⟨cq7, kq7, q7a, q7b, q7c⟩ := isOf hZ4 rfl f6_6
  obtain ⟨_, _, ⟨T7, L7, k7, n7⟩, -, X7, ⟨Lc7, hQ7, l7, y7, z7⟩, st7⟩ := X6.virtualBack hx (y := (⟨"java/lang/StringBuilder", "toString", "()Ljava/lang/String;"⟩ : MethodName)) (z := (⟨"java/lang/StringBuilder", "toString", "()Ljava/lang/String;"⟩ : MethodName)) hown4 (mvT hZ4 ow132) (mvT hZ4 ow133) (notFace_of_selects (args := #[]) (mvT hZ4 ow135)) (mvT hZ4 ow135) (mvT hZ4 ow134) (by decide) (backOf (W := 0) (own_rm_toS l Z a0 hw [] b2 cz bv kb (116 : Int32) (121 : Int32) (112 : Int32) (101 : Int32) (32 : Int32) (nar .byte (atv cld (7 : Int32))) T6.heap n0 Z6 (own_ndS (ninS ne_b2_bv nin0) (own_ndS nin0 List.nodup_nil)) p6_4 hcz f6_6 p6_1 p6_0 p6_2 p6_3) hZ4 ow136 ow49 (by decide) (by decide)) q7a q7c (g := (oF_tyN7 m 32 (oi 7) [(.ref b2)])) rfl (by rw [hml]; rfl) (Steps.refl _) (argsL := []) (rest := []) (lenOf own_pd_2829Ljava2flang2fString3b rfl) rfl (by show 2 * 0 + _ ≤ _; exact Nat.le_of_eq rfl) (hb hby o35_32) (fun _ _ => ⟨rfl, rfl, (by decide : 4 + 2 ≤ _), (by decide : 44 + 10 ≤ _)⟩)
  dsimp only [Pt.U, Pt.locs, Pt.cells, Pt.slots] at X7 l7 y7 z7 st7 hQ7
  subst l7 y7 z7
  obtain ⟨so, nb, kn, rfl, N7q, K7q, s_so, s_nb, ne_so_nb, p7_0, p7_1, p7_2, p7_3, p7_4⟩ := hQ7
  have N7 := Fr.app N6 N7q
  have f7_0 : Sta Z T7.heap "com/example/feeder/feeder/adapters/FrameFormat" "TYPE_NAMES" "[Ljava/lang/String;" (.ref tn) := own_stakE f6_0 K7q all0
  have f7_1 : Arv Z T7.heap tn ktn (.object "java/lang/String") (6 : Int32) [(.ref s0n), (.ref s1n), (.ref s2n), (.ref s3n), (.ref s4n), (.ref s5n)] .null := f6_1.keep K7q nin0
  have f7_2 : Sta Z T7.heap "jdk/internal/util/Preconditions" "SIOOBE_FORMATTER" "Ljava/util/function/BiFunction;" fm := own_stakE f6_2 K7q all0
  have f7_4 : Sta Z T7.heap "java/lang/Integer" "DigitOnes" "[B" (.ref dg) := own_stakE f6_4 K7q all0
  have f7_5 : Tab Z T7.heap dg cld .byte (100 : Int32) := own_tabk f6_5 K7q nin0
  have f7_6 : Exa Z T7.heap b2 "java/lang/StringBuilder" := f6_6.keep K7q
  have f7_7 : Exa Z T7.heap a4 "java/lang/String" := f6_7.keep K7q
  have f7_8 : Fld Z T7.heap a4 "java/lang/String" "coder" "B" (.int 0) := f6_8.keep K7q nin0
  have f7_9 : Fld Z T7.heap a4 "java/lang/String" "value" "[B" (.ref pc4) := f6_9.keep K7q nin0
  have f7_10 : Arv Z T7.heap pc4 kp4 .byte (5 : Int32) [(.int 116), (.int 121), (.int 112), (.int 101), (.int 32)] (.int 0) := f6_10.keep K7q nin0
  have f7_11 : Fld Z T7.heap b2 "java/lang/AbstractStringBuilder" "value" "[B" (.ref bv) := p6_0.keep K7q nin0
  have f7_12 : Fld Z T7.heap b2 "java/lang/AbstractStringBuilder" "coder" "B" (.int 0) := p6_1.keep K7q nin0
  have f7_13 : Fld Z T7.heap b2 "java/lang/AbstractStringBuilder" "count" "I" (.int 6) := p6_2.keep K7q nin0
  have f7_14 : Arv Z T7.heap bv kb .byte (16 : Int32) [(.int 116), (.int 121), (.int 112), (.int 101), (.int 32), (.int (nar .byte (atv cld (7 : Int32)))), (.int 0), (.int 0), (.int 0), (.int 0), (.int 0), (.int 0), (.int 0), (.int 0), (.int 0), (.int 0)] (.int 0) := p6_3.keep K7q nin0
  have hk7 : k4 ≤ T7.heap.size := Nat.le_trans hk6 K7q.1
  have Z7 : n0 ≤ T7.heap.size := Nat.le_trans Z6 K7q.1
  refine own_go (fun _ k => st7.trans k) ?_
  obtain ⟨fs, hr, hrun, hended, hRW⟩ := X7.leaveW Sn4 hk7 (v := some (.ref so)) (fun h => by rw [Bd.returns] at h; cases h)
  refine ⟨_, _, retOut X7 hx Bd.returns rfl (Or.inr (Or.inr (Or.inr (Or.inr ⟨rfl, rfl, rfl⟩)))) (hb hby o35_35) hr, hPf _ _ ⟨hrun, hended, _, _, rfl, ?_, hRW.1, hRW.2.1, hRW.2.2.1, hRW.2.2.2.mono (by decide) (by decide)⟩⟩
  show own_Q_tyN7 Z tn ktn s0n s1n s2n s3n s4n s5n cz fm dg cld h0 n0 _ T7.heap _
  exact ⟨so, nb, kn, rfl, N7, p7_0, p7_1, p7_2, p7_3, p7_4, f7_2⟩
theorem own_m7 (x : Int32) : x &&& 7 = 0 ∨ x &&& 7 = 1 ∨ x &&& 7 = 2 ∨ x &&& 7 = 3 ∨ x &&& 7 = 4 ∨ x &&& 7 = 5 ∨ x &&& 7 = 6 ∨ x &&& 7 = 7 := by
  have e := c_mask x 7 3 (by decide) (by decide)
  have q : (x &&& 7).toInt = (0 : Int32).toInt ∨ (x &&& 7).toInt = (1 : Int32).toInt ∨ (x &&& 7).toInt = (2 : Int32).toInt ∨ (x &&& 7).toInt = (3 : Int32).toInt ∨ (x &&& 7).toInt = (4 : Int32).toInt ∨ (x &&& 7).toInt = (5 : Int32).toInt ∨ (x &&& 7).toInt = (6 : Int32).toInt ∨ (x &&& 7).toInt = (7 : Int32).toInt := by
    show _ = 0 ∨ _ = 1 ∨ _ = 2 ∨ _ = 3 ∨ _ = 4 ∨ _ = 5 ∨ _ = 6 ∨ _ = 7
    rw [e]; have : ((2 ^ 3 : Nat) : Int) = 8 := rfl
    omega
  simpa only [Int32.toInt_inj] using q
abbrev oF_law (m : MethodId) (pc : Nat) (a0 a1 a2 a3 a4 a5 : Slot) (S : List Value) : JFrame := mkF m pc #[a0, a1, a2, a3, a4, a5] S
theorem own_pd_28I29Z : parseMethodDescriptor "(I)Z" = some ⟨[.int], some .boolean⟩ := by decide +kernel
theorem own_pd_28I29Ljava2flang2fString3b : parseMethodDescriptor "(I)Ljava/lang/String;" = some ⟨[.int], some (.object "java/lang/String")⟩ := by decide +kernel
theorem own_pd_28I29C : parseMethodDescriptor "(I)C" = some ⟨[.int], some .char⟩ := by decide +kernel
theorem own_ef_law (m : MethodId) (x0 : Int32) : entryFrame m #[(.int x0)] maxLocals = mkF m 0 #[(oi x0), .unset, .unset, .unset, .unset, .unset] [] := by first | (simp [entryFrame, mkF, argsToLocals, Value.category, maxLocals]; done) | rfl
def own_Q_law (Z : State) (p0 : Int32) (tn : Addr) (ktn : ClassId) (s0n s1n s2n s3n s4n s5n : Addr) (cz : Int32) (fm : Value) (dg : Addr) (cld : Cell) (s0b : Addr) (cl0n : Cell) (s1b : Addr) (cl1n : Cell) (s2b : Addr) (cl2n : Cell) (s3b : Addr) (cl3n : Cell) (s4b : Addr) (cl4n : Cell) (s5b : Addr) (cl5n : Cell) (h0 : Heap) (n0 : Nat) (v : Option Value) (h : Heap) (L : List Loc) : Prop := v = some (.int 1) ∧ Fr n0 L
theorem own_pn_com_example_feeder_feeder_adapters_FrameFormatIsConfigurationPinLaw : plainName "com/example/feeder/feeder/adapters/FrameFormatIsConfigurationPinLaw" = true := by first | (simp [plainName, overriddenIn]; done) | decide +kernel
set_option maxRecDepth 65536 in
set_option maxHeartbeats 40000000 in
theorem own_rm_law (l : Launch) (Z : State) (a0 : Array Value) (hw : ∀ d ∈ tables_1, d.before a0 Z = true) (ws : List Jvm.Cond) (p0 : Int32) (tn : Addr) (ktn : ClassId) (s0n s1n s2n s3n s4n s5n : Addr) (cz : Int32) (fm : Value) (dg : Addr) (cld : Cell) (s0b : Addr) (cl0n : Cell) (s1b : Addr) (cl1n : Cell) (s2b : Addr) (cl2n : Cell) (s3b : Addr) (cl3n : Cell) (s4b : Addr) (cl4n : Cell) (s5b : Addr) (cl5n : Cell) (h0 : Heap) (n0 : Nat) (Z0 : n0 ≤ h0.size) (St0 : Sta Z h0 "com/example/feeder/feeder/adapters/FrameFormat" "TYPE_NAMES" "[Ljava/lang/String;" (.ref tn)) (Vt0 : Arv Z h0 tn ktn (.object "java/lang/String") (6 : Int32) [(.ref s0n), (.ref s1n), (.ref s2n), (.ref s3n), (.ref s4n), (.ref s5n)] .null) (Sc0 : Sta Z h0 "java/lang/String" "COMPACT_STRINGS" "Z" (.int cz)) (hcz : ¬ cz = (0 : Int32)) (Sf0 : Sta Z h0 "jdk/internal/util/Preconditions" "SIOOBE_FORMATTER" "Ljava/util/function/BiFunction;" fm) (hfm : fm.isRef = true) (Sd0 : Sta Z h0 "java/lang/Integer" "DigitOnes" "[B" (.ref dg)) (Td0 : Tab Z h0 dg cld .byte (100 : Int32)) (xe0e : Exa Z h0 s0n "java/lang/String") (xe0c : Fld Z h0 s0n "java/lang/String" "coder" "B" (.int 0)) (xe0v : Fld Z h0 s0n "java/lang/String" "value" "[B" (.ref s0b)) (xe0t : Tab Z h0 s0b cl0n .byte (4 : Int32)) (xb00n : atv cl0n (0 : Int32) = (68 : Int32)) (xb01n : atv cl0n (1 : Int32) = (65 : Int32)) (xb02n : atv cl0n (2 : Int32) = (84 : Int32)) (xe1e : Exa Z h0 s1n "java/lang/String") (xe1c : Fld Z h0 s1n "java/lang/String" "coder" "B" (.int 0)) (xe1v : Fld Z h0 s1n "java/lang/String" "value" "[B" (.ref s1b)) (xe1t : Tab Z h0 s1b cl1n .byte (6 : Int32)) (xb10n : atv cl1n (0 : Int32) = (104 : Int32)) (xb11n : atv cl1n (1 : Int32) = (101 : Int32)) (xb12n : atv cl1n (2 : Int32) = (97 : Int32)) (xe2e : Exa Z h0 s2n "java/lang/String") (xe2c : Fld Z h0 s2n "java/lang/String" "coder" "B" (.int 0)) (xe2v : Fld Z h0 s2n "java/lang/String" "value" "[B" (.ref s2b)) (xe2t : Tab Z h0 s2b cl2n .byte (5 : Int32)) (xb20n : atv cl2n (0 : Int32) = (67 : Int32)) (xb21n : atv cl2n (1 : Int32) = (70 : Int32)) (xb22n : atv cl2n (2 : Int32) = (71 : Int32)) (xe3e : Exa Z h0 s3n "java/lang/String") (xe3c : Fld Z h0 s3n "java/lang/String" "coder" "B" (.int 0)) (xe3v : Fld Z h0 s3n "java/lang/String" "value" "[B" (.ref s3b)) (xe3t : Tab Z h0 s3b cl3n .byte (5 : Int32)) (xb30n : atv cl3n (0 : Int32) = (67 : Int32)) (xb31n : atv cl3n (1 : Int32) = (70 : Int32)) (xb32n : atv cl3n (2 : Int32) = (71 : Int32)) (xe4e : Exa Z h0 s4n "java/lang/String") (xe4c : Fld Z h0 s4n "java/lang/String" "coder" "B" (.int 0)) (xe4v : Fld Z h0 s4n "java/lang/String" "value" "[B" (.ref s4b)) (xe4t : Tab Z h0 s4b cl4n .byte (7 : Int32)) (xb40n : atv cl4n (0 : Int32) = (99 : Int32)) (xb41n : atv cl4n (1 : Int32) = (111 : Int32)) (xb42n : atv cl4n (2 : Int32) = (109 : Int32)) (xe5e : Exa Z h0 s5n "java/lang/String") (xe5c : Fld Z h0 s5n "java/lang/String" "coder" "B" (.int 0)) (xe5v : Fld Z h0 s5n "java/lang/String" "value" "[B" (.ref s5b)) (xe5t : Tab Z h0 s5b cl5n .byte (5 : Int32)) (xb50n : atv cl5n (0 : Int32) = (67 : Int32)) (xb51n : atv cl5n (1 : Int32) = (70 : Int32)) (xb52n : atv cl5n (2 : Int32) = (71 : Int32)) :
    MetFree l x (head1 (Jvm.Cond.code x code maxLocals ret :: ws) room_1) (fun a U => a = #[(.int p0)] ∧ Z.Warmed39 U.vm ∧ U.heap = h0 ∧ CHv Z consts_1 U.vm h0) (fun _ _ _ _ _ => True) (fun _ U o U' => ∃ v L, o = .returned v ∧ own_Q_law Z p0 tn ktn s0n s1n s2n s3n s4n s5n cz fm dg cld s0b cl0n s1b cl1n s2b cl2n s3b cl3n s4b cl4n s5b cl5n h0 n0 v U'.heap L ∧ ReturnedEndW U o U' L room_1.cells room_1.slots) := by
  refine MetFree.of_bodySF (plainFor_of_name own_pn_com_example_feeder_feeder_adapters_FrameFormatIsConfigurationPinLaw) hisR ?_
  intro p e s m args below meth c s₁ Bd hml0 hP hKq_
  obtain ⟨rfl, hZ, hh, H0c⟩ := hP
  have hx := Bd.exec
  have hby := Bd.bytes
  have hml : c.maxLocals = 6 := hml0
  have hown : s.vm.findClass "com/example/feeder/feeder/adapters/FrameFormatIsConfigurationPinLaw" = some m.cls := findClass_of_methodNamed Bd.named
  have hnm := (name_of_methodNamed Bd.named Bd.method).1
  have ow0 := hw _ (List.mem_of_getElem? (i := 0) rfl)
  have ow1 := hw _ (List.mem_of_getElem? (i := 1) rfl)
  have ow2 := hw _ (List.mem_of_getElem? (i := 2) rfl)
  have ow3 := hw _ (List.mem_of_getElem? (i := 3) rfl)
  have ow4 := hw _ (List.mem_of_getElem? (i := 4) rfl)
  have ow5 := hw _ (List.mem_of_getElem? (i := 5) rfl)
  have ow6 := hw _ (List.mem_of_getElem? (i := 6) rfl)
  have ow9 := hw _ (List.mem_of_getElem? (i := 9) rfl)
  have ow10 := hw _ (List.mem_of_getElem? (i := 10) rfl)
  have ow11 := hw _ (List.mem_of_getElem? (i := 11) rfl)
  have ow12 := hw _ (List.mem_of_getElem? (i := 12) rfl)
  have ow13 := hw _ (List.mem_of_getElem? (i := 13) rfl)
  have ow14 := hw _ (List.mem_of_getElem? (i := 14) rfl)
  have ow25 := hw _ (List.mem_of_getElem? (i := 25) rfl)
  have ow26 := hw _ (List.mem_of_getElem? (i := 26) rfl)
  have ow27 := hw _ (List.mem_of_getElem? (i := 27) rfl)
  have ow28 := hw _ (List.mem_of_getElem? (i := 28) rfl)
  have ow29 := hw _ (List.mem_of_getElem? (i := 29) rfl)
  have X0 : Stand p l e room_1 (s.setVm s.vm) m #[(.int p0)] below meth c s₁ [] 0 0 := Stand.of_body Bd
  have e0 : s₁.heap = h0 := by rw [← hh, Bd.state]; rfl
  have N0 := Fr.nil n0
  have pre0 : ∀ t, Steps p.tables e below (s₁.setTop (mkF m 0 #[(oi p0), .unset, .unset, .unset, .unset, .unset] [])) t → Steps p.tables e below (s₁.setTop (entryFrame m #[(.int p0)] maxLocals)) t := fun t k => castTop (own_ef_law m p0) k
  refine own_go pre0 ?_
  refine own_abs ?_
  intro Pf hPf
  have hZ : Z.Warmed39 (s.setVm s.vm).vm := hZ
  have hown : (s.setVm s.vm).vm.findClass "com/example/feeder/feeder/adapters/FrameFormatIsConfigurationPinLaw" = some m.cls := hown
  have Sn0 : s.Since s.vm 0 := (State.WarmedH.refl s).since 0
  have hk0 : 0 ≤ h0.size := Nat.zero_le _
  refine own_go (A := oW p e below s₁ (oF_law m 5 (oi p0) (oi (p0 &&& (7 : Int32))) .unset .unset .unset .unset [])) (fun t k => by
    refine XS.iloadN X0.here hx rfl (hb hby at_0) rfl ?_
    show oW p e below s₁ (oF_law m 1 (oi p0) .unset .unset .unset .unset .unset [(.int p0)]) _
    refine XS.bipush X0.here hx rfl (hb hby at_1) ?_
    show oW p e below s₁ (oF_law m 3 (oi p0) .unset .unset .unset .unset .unset [(.int 7), (.int p0)]) _
    refine XS.iand X0.here hx rfl (hb hby at_3) rfl ?_
    show oW p e below s₁ (oF_law m 4 (oi p0) .unset .unset .unset .unset .unset [(.int (p0 &&& (7 : Int32)))]) _
    refine XS.istoreN X0.here hx rfl (hb hby at_4) rfl (l' := #[(oi p0), (oi (p0 &&& (7 : Int32))), .unset, .unset, .unset, .unset]) rfl ?_
    exact k) ?_
  obtain ⟨tt, h_tt⟩ : ∃ z, z = (p0 &&& (7 : Int32)) := ⟨_, rfl⟩
  rw [← h_tt]
  have c7 : tt = 0 ∨ tt = 1 ∨ tt = 2 ∨ tt = 3 ∨ tt = 4 ∨ tt = 5 ∨ tt = 6 ∨ tt = 7 := by rw [h_tt]; exact own_m7 _
  clear h_tt
  rcases c7 with c7 | c7 | c7 | c7 | c7 | c7 | c7 | c7
  · subst c7
    refine own_go (A := oW p e below s₁ (oF_law m 6 (oi p0) (oi 0) .unset .unset .unset .unset [(.int 0)])) (fun t k => by
      refine XS.iloadN X0.here hx rfl (hb hby at_5) rfl ?_
      exact k) ?_
    obtain ⟨_, _, ⟨T1, L1, k1, n1⟩, -, X1, ⟨Lc1, hQ1, l1, y1, z1⟩, st1⟩ := Jvm.LawKit.callS X0 hx (y := (⟨"com/example/feeder/feeder/adapters/FrameFormat", "isConfiguration", "(I)Z"⟩ : MethodName)) hown (mvT hZ ow0) (mvT hZ ow1) (mvT hZ ow2) (mvT hZ ow3) (by decide) (backOf (W := 0) (own_rm_isC0 l Z a0 hw []  h0 n0 Z0 ) hZ ow3 ow2 (by decide) (by decide)) (g := (oF_law m 6 (oi p0) (oi 0) .unset .unset .unset .unset [(.int 0)])) rfl (by rw [hml]; rfl) (argsL := [(.int 0)]) (rest := []) (lenOf own_pd_28I29Z rfl) rfl (by show 2 * 0 + _ ≤ _; exact Nat.le_of_eq rfl) (hb hby at_6) (fun _ _ => ⟨rfl, e0, (by decide : 0 + 0 ≤ _), (by decide : 0 + 0 ≤ _)⟩)
    dsimp only [Pt.U, Pt.locs, Pt.cells, Pt.slots] at X1 l1 y1 z1 st1 hQ1
    subst l1 y1 z1
    obtain ⟨rfl, N1q, eh1⟩ := hQ1
    have N1 := Fr.app N0 N1q
    refine own_go st1 ?_
    refine own_go (A := oW p e below T1 (oF_law m 26 (oi p0) (oi 0) (oi 0) (oi 0) .unset .unset [(.int 0)])) (fun t k => by
      refine XS.istoreN X1.here hx rfl (hb hby at_9) rfl (l' := #[(oi p0), (oi 0), (oi 0), .unset, .unset, .unset]) rfl ?_
      show oW p e below T1 (oF_law m 10 (oi p0) (oi 0) (oi 0) .unset .unset .unset []) _
      refine XS.bipush X1.here hx rfl (hb hby at_10) ?_
      show oW p e below T1 (oF_law m 12 (oi p0) (oi 0) (oi 0) .unset .unset .unset [(.int 44)]) _
      refine XS.iloadN X1.here hx rfl (hb hby at_12) rfl ?_
      show oW p e below T1 (oF_law m 13 (oi p0) (oi 0) (oi 0) .unset .unset .unset [(.int 0), (.int 44)]) _
      refine XS.ishr X1.here hx rfl (hb hby at_13) rfl ?_
      show oW p e below T1 (oF_law m 14 (oi p0) (oi 0) (oi 0) .unset .unset .unset [(.int 44)]) _
      refine XS.iconst X1.here hx rfl (hb hby at_14) ?_
      show oW p e below T1 (oF_law m 15 (oi p0) (oi 0) (oi 0) .unset .unset .unset [(.int 1), (.int 44)]) _
      refine XS.iand X1.here hx rfl (hb hby at_15) rfl ?_
      show oW p e below T1 (oF_law m 16 (oi p0) (oi 0) (oi 0) .unset .unset .unset [(.int 0)]) _
      refine XS.ifYes X1.here hx rfl (pc0 := 16) (pc' := 23) rfl (hb hby at_16) rfl ((if0 _ _).trans (teq (by decide : (0 : Int32) = (0 : Int32))).1) (by decide) (by decide) ?_
      show oW p e below T1 (oF_law m 23 (oi p0) (oi 0) (oi 0) .unset .unset .unset []) _
      refine XS.iconst X1.here hx rfl (hb hby at_23) ?_
      show oW p e below T1 (oF_law m 24 (oi p0) (oi 0) (oi 0) .unset .unset .unset [(.int 0)]) _
      refine XS.istoreN X1.here hx rfl (hb hby at_24) rfl (l' := #[(oi p0), (oi 0), (oi 0), (oi 0), .unset, .unset]) rfl ?_
      show oW p e below T1 (oF_law m 25 (oi p0) (oi 0) (oi 0) (oi 0) .unset .unset []) _
      refine XS.iloadN X1.here hx rfl (hb hby at_25) rfl ?_
      exact k) ?_
    obtain ⟨_, _, ⟨T2, L2, k2, n2⟩, -, X2, ⟨Lc2, hQ2, l2, y2, z2⟩, st2⟩ := Jvm.LawKit.callS X1 hx (y := (⟨"com/example/feeder/feeder/adapters/FrameFormat", "typeName", "(I)Ljava/lang/String;"⟩ : MethodName)) hown (mvT hZ ow4) (mvT hZ ow5) (mvT hZ ow2) (mvT hZ ow6) (by decide) (backOf (W := 0) (own_rm_tyN0 l Z a0 hw [] tn ktn s0n s1n s2n s3n s4n s5n h0 n0 Z0 St0 Vt0) hZ ow6 ow2 (by decide) (by decide)) (g := (oF_law m 26 (oi p0) (oi 0) (oi 0) (oi 0) .unset .unset [(.int 0)])) rfl (by rw [hml]; rfl) (argsL := [(.int 0)]) (rest := []) (lenOf own_pd_28I29Ljava2flang2fString3b rfl) rfl (by show 2 * 0 + _ ≤ _; exact Nat.le_of_eq rfl) (hb hby at_26) (fun _ _ => ⟨rfl, eh1, (by decide : 0 + 0 ≤ _), (by decide : 0 + 0 ≤ _)⟩)
    dsimp only [Pt.U, Pt.locs, Pt.cells, Pt.slots] at X2 l2 y2 z2 st2 hQ2
    subst l2 y2 z2
    obtain ⟨rfl, N2q, eh2⟩ := hQ2
    have N2 := Fr.app N1 N2q
    refine own_go st2 ?_
    refine own_go (A := oW p e below T2 (oF_law m 33 (oi p0) (oi 0) (oi 0) (oi 0) (oR s0n) .unset [(.ref s0n)])) (fun t k => by
      refine XS.astore X2.here hx rfl (hb hby at_29) rfl rfl (l' := #[(oi p0), (oi 0), (oi 0), (oi 0), (oR s0n), .unset]) rfl ?_
      show oW p e below T2 (oF_law m 31 (oi p0) (oi 0) (oi 0) (oi 0) (oR s0n) .unset []) _
      refine XS.aload X2.here hx rfl (hb hby at_31) rfl rfl ?_
      exact k) ?_
    obtain ⟨cq3, kq3, q3a, q3b, q3c⟩ := isOf hZ eh2 xe0e
    obtain ⟨_, _, ⟨T3, L3, k3, n3⟩, -, X3, ⟨Lc3, hQ3, l3, y3, z3⟩, st3⟩ := X2.virtualBack hx (y := (⟨"java/lang/String", "length", "()I"⟩ : MethodName)) (z := (⟨"java/lang/String", "length", "()I"⟩ : MethodName)) hown (mvT hZ ow9) (mvT hZ ow10) (notFace_of_selects (args := #[]) (mvT hZ ow12)) (mvT hZ ow12) (mvT hZ ow11) (by decide) (backOf (W := 0) (own_rm_len l Z a0 hw [] s0n cz s0b cl0n (4 : Int32) h0 n0 Z0 Sc0 hcz xe0t xe0c xe0v xe0e) hZ ow14 ow13 (by decide) (by decide)) q3a q3c (g := (oF_law m 33 (oi p0) (oi 0) (oi 0) (oi 0) (oR s0n) .unset [(.ref s0n)])) rfl (by rw [hml]; rfl) (Steps.refl _) (argsL := []) (rest := []) (lenOf own_pd_2829I rfl) rfl (by show 2 * 0 + _ ≤ _; exact Nat.le_of_eq rfl) (hb hby at_33) (fun _ _ => ⟨rfl, eh2, (by decide : 0 + 0 ≤ _), (by decide : 0 + 0 ≤ _)⟩)
    dsimp only [Pt.U, Pt.locs, Pt.cells, Pt.slots] at X3 l3 y3 z3 st3 hQ3
    subst l3 y3 z3
    obtain ⟨rfl, N3q, eh3⟩ := hQ3
    have N3 := Fr.app N2 N3q
    refine own_go (fun _ k => st3.trans k) ?_
    refine own_go (A := oW p e below T3 (oF_law m 43 (oi p0) (oi 0) (oi 0) (oi 0) (oR s0n) .unset [(.int 0), (.ref s0n)])) (fun t k => by
      refine XS.iconst X3.here hx rfl (hb hby at_36) ?_
      show oW p e below T3 (oF_law m 37 (oi p0) (oi 0) (oi 0) (oi 0) (oR s0n) .unset [(.int 3), (.int 4)]) _
      refine XS.icmpNo X3.here hx rfl (hb hby at_37) rfl (flt (by decide : ¬ ((4 : Int32) < (3 : Int32)))).1 ?_
      show oW p e below T3 (oF_law m 40 (oi p0) (oi 0) (oi 0) (oi 0) (oR s0n) .unset []) _
      refine XS.aload X3.here hx rfl (hb hby at_40) rfl rfl ?_
      show oW p e below T3 (oF_law m 42 (oi p0) (oi 0) (oi 0) (oi 0) (oR s0n) .unset [(.ref s0n)]) _
      refine XS.iconst X3.here hx rfl (hb hby at_42) ?_
      exact k) ?_
    obtain ⟨cq4, kq4, q4a, q4b, q4c⟩ := isOf hZ eh3 xe0e
    obtain ⟨_, _, ⟨T4, L4, k4, n4⟩, -, X4, ⟨Lc4, hQ4, l4, y4, z4⟩, st4⟩ := X3.virtualBack hx (y := (⟨"java/lang/String", "charAt", "(I)C"⟩ : MethodName)) (z := (⟨"java/lang/String", "charAt", "(I)C"⟩ : MethodName)) hown (mvT hZ ow25) (mvT hZ ow26) (notFace_of_selects (args := #[]) (mvT hZ ow28)) (mvT hZ ow28) (mvT hZ ow27) (by decide) (backOf (W := 0) (own_rm_chA l Z a0 hw [] s0n (0 : Int32) cz fm s0b cl0n (4 : Int32) h0 n0 Z0 Sc0 hcz Sf0 hfm xe0t ⟨by decide, by decide⟩ xe0c xe0v xe0e) hZ ow29 ow13 (by decide) (by decide)) q4a q4c (g := (oF_law m 43 (oi p0) (oi 0) (oi 0) (oi 0) (oR s0n) .unset [(.int 0), (.ref s0n)])) rfl (by rw [hml]; rfl) (Steps.refl _) (argsL := [(.int 0)]) (rest := []) (lenOf own_pd_28I29C rfl) rfl (by show 2 * 0 + _ ≤ _; exact Nat.le_of_eq rfl) (hb hby at_43) (fun _ _ => ⟨rfl, eh3, (by decide : 0 + 0 ≤ _), (by decide : 0 + 0 ≤ _)⟩)
    dsimp only [Pt.U, Pt.locs, Pt.cells, Pt.slots] at X4 l4 y4 z4 st4 hQ4
    subst l4 y4 z4
    obtain ⟨rfl, N4q, eh4⟩ := hQ4
    have N4 := Fr.app N3 N4q
    refine own_go (fun _ k => st4.trans k) ?_
    refine own_go (A := oW p e below T4 (oF_law m 96 (oi p0) (oi 0) (oi 0) (oi 0) (oR s0n) (oi 0) [(.int 1)])) (fun t k => by
      refine XS.bipush X4.here hx rfl (hb hby at_46) ?_
      show oW p e below T4 (oF_law m 48 (oi p0) (oi 0) (oi 0) (oi 0) (oR s0n) .unset [(.int 67), (.int (own_ch (atv cl0n (0 : Int32))))]) _
      refine XS.icmpYes X4.here hx rfl (pc0 := 48) (pc' := 77) rfl (hb hby at_48) rfl (feq (by rw [xb00n]; decide : ¬ ((own_ch (atv cl0n (0 : Int32))) = (67 : Int32)))).2 (by decide) (by decide) ?_
      show oW p e below T4 (oF_law m 77 (oi p0) (oi 0) (oi 0) (oi 0) (oR s0n) .unset []) _
      refine XS.iconst X4.here hx rfl (hb hby at_77) ?_
      show oW p e below T4 (oF_law m 78 (oi p0) (oi 0) (oi 0) (oi 0) (oR s0n) .unset [(.int 0)]) _
      refine XS.istore X4.here hx rfl (hb hby at_78) rfl (l' := #[(oi p0), (oi 0), (oi 0), (oi 0), (oR s0n), (oi 0)]) rfl ?_
      show oW p e below T4 (oF_law m 80 (oi p0) (oi 0) (oi 0) (oi 0) (oR s0n) (oi 0) []) _
      refine XS.iloadN X4.here hx rfl (hb hby at_80) rfl ?_
      show oW p e below T4 (oF_law m 81 (oi p0) (oi 0) (oi 0) (oi 0) (oR s0n) (oi 0) [(.int 0)]) _
      refine XS.iloadN X4.here hx rfl (hb hby at_81) rfl ?_
      show oW p e below T4 (oF_law m 82 (oi p0) (oi 0) (oi 0) (oi 0) (oR s0n) (oi 0) [(.int 0), (.int 0)]) _
      refine XS.icmpNo X4.here hx rfl (hb hby at_82) rfl (teq (by decide : (0 : Int32) = (0 : Int32))).2 ?_
      show oW p e below T4 (oF_law m 85 (oi p0) (oi 0) (oi 0) (oi 0) (oR s0n) (oi 0) []) _
      refine XS.iloadN X4.here hx rfl (hb hby at_85) rfl ?_
      show oW p e below T4 (oF_law m 86 (oi p0) (oi 0) (oi 0) (oi 0) (oR s0n) (oi 0) [(.int 0)]) _
      refine XS.iload X4.here hx rfl (hb hby at_86) rfl ?_
      show oW p e below T4 (oF_law m 88 (oi p0) (oi 0) (oi 0) (oi 0) (oR s0n) (oi 0) [(.int 0), (.int 0)]) _
      refine XS.icmpNo X4.here hx rfl (hb hby at_88) rfl (teq (by decide : (0 : Int32) = (0 : Int32))).2 ?_
      show oW p e below T4 (oF_law m 91 (oi p0) (oi 0) (oi 0) (oi 0) (oR s0n) (oi 0) []) _
      refine XS.iconst X4.here hx rfl (hb hby at_91) ?_
      show oW p e below T4 (oF_law m 92 (oi p0) (oi 0) (oi 0) (oi 0) (oR s0n) (oi 0) [(.int 1)]) _
      refine XS.goto X4.here hx rfl (pc0 := 92) (pc' := 96) rfl (hb hby at_92) (by decide) (by decide) ?_
      exact k) ?_
    obtain ⟨fs, hr, hrun, hended, hRW⟩ := X4.leaveW Sn0 (by rw [eh4]; exact hk0) (v := some (.int (nar .boolean (1 : Int32)))) (fun h => by rw [Bd.returns] at h; cases h)
    refine ⟨_, _, retN X4 hx (t := .boolean) Bd.returns (by simp) (hb hby at_96) hr, hPf _ _ ⟨hrun, hended, _, _, rfl, ?_, hRW.1, hRW.2.1, hRW.2.2.1, hRW.2.2.2.mono (by decide) (by decide)⟩⟩
    show own_Q_law Z p0 tn ktn s0n s1n s2n s3n s4n s5n cz fm dg cld s0b cl0n s1b cl1n s2b cl2n s3b cl3n s4b cl4n s5b cl5n h0 n0 _ T4.heap _
    rw [eh4]
    exact ⟨rfl, N4⟩
  · subst c7
    refine own_go (A := oW p e below s₁ (oF_law m 6 (oi p0) (oi 1) .unset .unset .unset .unset [(.int 1)])) (fun t k => by
      refine XS.iloadN X0.here hx rfl (hb hby at_5) rfl ?_
      exact k) ?_
    obtain ⟨_, _, ⟨T5, L5, k5, n5⟩, -, X5, ⟨Lc5, hQ5, l5, y5, z5⟩, st5⟩ := Jvm.LawKit.callS X0 hx (y := (⟨"com/example/feeder/feeder/adapters/FrameFormat", "isConfiguration", "(I)Z"⟩ : MethodName)) hown (mvT hZ ow0) (mvT hZ ow1) (mvT hZ ow2) (mvT hZ ow3) (by decide) (backOf (W := 0) (own_rm_isC1 l Z a0 hw []  h0 n0 Z0 ) hZ ow3 ow2 (by decide) (by decide)) (g := (oF_law m 6 (oi p0) (oi 1) .unset .unset .unset .unset [(.int 1)])) rfl (by rw [hml]; rfl) (argsL := [(.int 1)]) (rest := []) (lenOf own_pd_28I29Z rfl) rfl (by show 2 * 0 + _ ≤ _; exact Nat.le_of_eq rfl) (hb hby at_6) (fun _ _ => ⟨rfl, e0, (by decide : 0 + 0 ≤ _), (by decide : 0 + 0 ≤ _)⟩)
    dsimp only [Pt.U, Pt.locs, Pt.cells, Pt.slots] at X5 l5 y5 z5 st5 hQ5
    subst l5 y5 z5
    obtain ⟨rfl, N5q, eh5⟩ := hQ5
    have N5 := Fr.app N0 N5q
    refine own_go st5 ?_
    refine own_go (A := oW p e below T5 (oF_law m 26 (oi p0) (oi 1) (oi 0) (oi 0) .unset .unset [(.int 1)])) (fun t k => by
      refine XS.istoreN X5.here hx rfl (hb hby at_9) rfl (l' := #[(oi p0), (oi 1), (oi 0), .unset, .unset, .unset]) rfl ?_
      show oW p e below T5 (oF_law m 10 (oi p0) (oi 1) (oi 0) .unset .unset .unset []) _
      refine XS.bipush X5.here hx rfl (hb hby at_10) ?_
      show oW p e below T5 (oF_law m 12 (oi p0) (oi 1) (oi 0) .unset .unset .unset [(.int 44)]) _
      refine XS.iloadN X5.here hx rfl (hb hby at_12) rfl ?_
      show oW p e below T5 (oF_law m 13 (oi p0) (oi 1) (oi 0) .unset .unset .unset [(.int 1), (.int 44)]) _
      refine XS.ishr X5.here hx rfl (hb hby at_13) rfl ?_
      show oW p e below T5 (oF_law m 14 (oi p0) (oi 1) (oi 0) .unset .unset .unset [(.int 22)]) _
      refine XS.iconst X5.here hx rfl (hb hby at_14) ?_
      show oW p e below T5 (oF_law m 15 (oi p0) (oi 1) (oi 0) .unset .unset .unset [(.int 1), (.int 22)]) _
      refine XS.iand X5.here hx rfl (hb hby at_15) rfl ?_
      show oW p e below T5 (oF_law m 16 (oi p0) (oi 1) (oi 0) .unset .unset .unset [(.int 0)]) _
      refine XS.ifYes X5.here hx rfl (pc0 := 16) (pc' := 23) rfl (hb hby at_16) rfl ((if0 _ _).trans (teq (by decide : (0 : Int32) = (0 : Int32))).1) (by decide) (by decide) ?_
      show oW p e below T5 (oF_law m 23 (oi p0) (oi 1) (oi 0) .unset .unset .unset []) _
      refine XS.iconst X5.here hx rfl (hb hby at_23) ?_
      show oW p e below T5 (oF_law m 24 (oi p0) (oi 1) (oi 0) .unset .unset .unset [(.int 0)]) _
      refine XS.istoreN X5.here hx rfl (hb hby at_24) rfl (l' := #[(oi p0), (oi 1), (oi 0), (oi 0), .unset, .unset]) rfl ?_
      show oW p e below T5 (oF_law m 25 (oi p0) (oi 1) (oi 0) (oi 0) .unset .unset []) _
      refine XS.iloadN X5.here hx rfl (hb hby at_25) rfl ?_
      exact k) ?_
    obtain ⟨_, _, ⟨T6, L6, k6, n6⟩, -, X6, ⟨Lc6, hQ6, l6, y6, z6⟩, st6⟩ := Jvm.LawKit.callS X5 hx (y := (⟨"com/example/feeder/feeder/adapters/FrameFormat", "typeName", "(I)Ljava/lang/String;"⟩ : MethodName)) hown (mvT hZ ow4) (mvT hZ ow5) (mvT hZ ow2) (mvT hZ ow6) (by decide) (backOf (W := 0) (own_rm_tyN1 l Z a0 hw [] tn ktn s0n s1n s2n s3n s4n s5n h0 n0 Z0 St0 Vt0) hZ ow6 ow2 (by decide) (by decide)) (g := (oF_law m 26 (oi p0) (oi 1) (oi 0) (oi 0) .unset .unset [(.int 1)])) rfl (by rw [hml]; rfl) (argsL := [(.int 1)]) (rest := []) (lenOf own_pd_28I29Ljava2flang2fString3b rfl) rfl (by show 2 * 0 + _ ≤ _; exact Nat.le_of_eq rfl) (hb hby at_26) (fun _ _ => ⟨rfl, eh5, (by decide : 0 + 0 ≤ _), (by decide : 0 + 0 ≤ _)⟩)
    dsimp only [Pt.U, Pt.locs, Pt.cells, Pt.slots] at X6 l6 y6 z6 st6 hQ6
    subst l6 y6 z6
    obtain ⟨rfl, N6q, eh6⟩ := hQ6
    have N6 := Fr.app N5 N6q
    refine own_go st6 ?_
    refine own_go (A := oW p e below T6 (oF_law m 33 (oi p0) (oi 1) (oi 0) (oi 0) (oR s1n) .unset [(.ref s1n)])) (fun t k => by
      refine XS.astore X6.here hx rfl (hb hby at_29) rfl rfl (l' := #[(oi p0), (oi 1), (oi 0), (oi 0), (oR s1n), .unset]) rfl ?_
      show oW p e below T6 (oF_law m 31 (oi p0) (oi 1) (oi 0) (oi 0) (oR s1n) .unset []) _
      refine XS.aload X6.here hx rfl (hb hby at_31) rfl rfl ?_
      exact k) ?_
    obtain ⟨cq7, kq7, q7a, q7b, q7c⟩ := isOf hZ eh6 xe1e
    obtain ⟨_, _, ⟨T7, L7, k7, n7⟩, -, X7, ⟨Lc7, hQ7, l7, y7, z7⟩, st7⟩ := X6.virtualBack hx (y := (⟨"java/lang/String", "length", "()I"⟩ : MethodName)) (z := (⟨"java/lang/String", "length", "()I"⟩ : MethodName)) hown (mvT hZ ow9) (mvT hZ ow10) (notFace_of_selects (args := #[]) (mvT hZ ow12)) (mvT hZ ow12) (mvT hZ ow11) (by decide) (backOf (W := 0) (own_rm_len l Z a0 hw [] s1n cz s1b cl1n (6 : Int32) h0 n0 Z0 Sc0 hcz xe1t xe1c xe1v xe1e) hZ ow14 ow13 (by decide) (by decide)) q7a q7c (g := (oF_law m 33 (oi p0) (oi 1) (oi 0) (oi 0) (oR s1n) .unset [(.ref s1n)])) rfl (by rw [hml]; rfl) (Steps.refl _) (argsL := []) (rest := []) (lenOf own_pd_2829I rfl) rfl (by show 2 * 0 + _ ≤ _; exact Nat.le_of_eq rfl) (hb hby at_33) (fun _ _ => ⟨rfl, eh6, (by decide : 0 + 0 ≤ _), (by decide : 0 + 0 ≤ _)⟩)
    dsimp only [Pt.U, Pt.locs, Pt.cells, Pt.slots] at X7 l7 y7 z7 st7 hQ7
    subst l7 y7 z7
    obtain ⟨rfl, N7q, eh7⟩ := hQ7
    have N7 := Fr.app N6 N7q
    refine own_go (fun _ k => st7.trans k) ?_
    refine own_go (A := oW p e below T7 (oF_law m 43 (oi p0) (oi 1) (oi 0) (oi 0) (oR s1n) .unset [(.int 0), (.ref s1n)])) (fun t k => by
      refine XS.iconst X7.here hx rfl (hb hby at_36) ?_
      show oW p e below T7 (oF_law m 37 (oi p0) (oi 1) (oi 0) (oi 0) (oR s1n) .unset [(.int 3), (.int 6)]) _
      refine XS.icmpNo X7.here hx rfl (hb hby at_37) rfl (flt (by decide : ¬ ((6 : Int32) < (3 : Int32)))).1 ?_
      show oW p e below T7 (oF_law m 40 (oi p0) (oi 1) (oi 0) (oi 0) (oR s1n) .unset []) _
      refine XS.aload X7.here hx rfl (hb hby at_40) rfl rfl ?_
      show oW p e below T7 (oF_law m 42 (oi p0) (oi 1) (oi 0) (oi 0) (oR s1n) .unset [(.ref s1n)]) _
      refine XS.iconst X7.here hx rfl (hb hby at_42) ?_
      exact k) ?_
    obtain ⟨cq8, kq8, q8a, q8b, q8c⟩ := isOf hZ eh7 xe1e
    obtain ⟨_, _, ⟨T8, L8, k8, n8⟩, -, X8, ⟨Lc8, hQ8, l8, y8, z8⟩, st8⟩ := X7.virtualBack hx (y := (⟨"java/lang/String", "charAt", "(I)C"⟩ : MethodName)) (z := (⟨"java/lang/String", "charAt", "(I)C"⟩ : MethodName)) hown (mvT hZ ow25) (mvT hZ ow26) (notFace_of_selects (args := #[]) (mvT hZ ow28)) (mvT hZ ow28) (mvT hZ ow27) (by decide) (backOf (W := 0) (own_rm_chA l Z a0 hw [] s1n (0 : Int32) cz fm s1b cl1n (6 : Int32) h0 n0 Z0 Sc0 hcz Sf0 hfm xe1t ⟨by decide, by decide⟩ xe1c xe1v xe1e) hZ ow29 ow13 (by decide) (by decide)) q8a q8c (g := (oF_law m 43 (oi p0) (oi 1) (oi 0) (oi 0) (oR s1n) .unset [(.int 0), (.ref s1n)])) rfl (by rw [hml]; rfl) (Steps.refl _) (argsL := [(.int 0)]) (rest := []) (lenOf own_pd_28I29C rfl) rfl (by show 2 * 0 + _ ≤ _; exact Nat.le_of_eq rfl) (hb hby at_43) (fun _ _ => ⟨rfl, eh7, (by decide : 0 + 0 ≤ _), (by decide : 0 + 0 ≤ _)⟩)
    dsimp only [Pt.U, Pt.locs, Pt.cells, Pt.slots] at X8 l8 y8 z8 st8 hQ8
    subst l8 y8 z8
    obtain ⟨rfl, N8q, eh8⟩ := hQ8
    have N8 := Fr.app N7 N8q
    refine own_go (fun _ k => st8.trans k) ?_
    refine own_go (A := oW p e below T8 (oF_law m 96 (oi p0) (oi 1) (oi 0) (oi 0) (oR s1n) (oi 0) [(.int 1)])) (fun t k => by
      refine XS.bipush X8.here hx rfl (hb hby at_46) ?_
      show oW p e below T8 (oF_law m 48 (oi p0) (oi 1) (oi 0) (oi 0) (oR s1n) .unset [(.int 67), (.int (own_ch (atv cl1n (0 : Int32))))]) _
      refine XS.icmpYes X8.here hx rfl (pc0 := 48) (pc' := 77) rfl (hb hby at_48) rfl (feq (by rw [xb10n]; decide : ¬ ((own_ch (atv cl1n (0 : Int32))) = (67 : Int32)))).2 (by decide) (by decide) ?_
      show oW p e below T8 (oF_law m 77 (oi p0) (oi 1) (oi 0) (oi 0) (oR s1n) .unset []) _
      refine XS.iconst X8.here hx rfl (hb hby at_77) ?_
      show oW p e below T8 (oF_law m 78 (oi p0) (oi 1) (oi 0) (oi 0) (oR s1n) .unset [(.int 0)]) _
      refine XS.istore X8.here hx rfl (hb hby at_78) rfl (l' := #[(oi p0), (oi 1), (oi 0), (oi 0), (oR s1n), (oi 0)]) rfl ?_
      show oW p e below T8 (oF_law m 80 (oi p0) (oi 1) (oi 0) (oi 0) (oR s1n) (oi 0) []) _
      refine XS.iloadN X8.here hx rfl (hb hby at_80) rfl ?_
      show oW p e below T8 (oF_law m 81 (oi p0) (oi 1) (oi 0) (oi 0) (oR s1n) (oi 0) [(.int 0)]) _
      refine XS.iloadN X8.here hx rfl (hb hby at_81) rfl ?_
      show oW p e below T8 (oF_law m 82 (oi p0) (oi 1) (oi 0) (oi 0) (oR s1n) (oi 0) [(.int 0), (.int 0)]) _
      refine XS.icmpNo X8.here hx rfl (hb hby at_82) rfl (teq (by decide : (0 : Int32) = (0 : Int32))).2 ?_
      show oW p e below T8 (oF_law m 85 (oi p0) (oi 1) (oi 0) (oi 0) (oR s1n) (oi 0) []) _
      refine XS.iloadN X8.here hx rfl (hb hby at_85) rfl ?_
      show oW p e below T8 (oF_law m 86 (oi p0) (oi 1) (oi 0) (oi 0) (oR s1n) (oi 0) [(.int 0)]) _
      refine XS.iload X8.here hx rfl (hb hby at_86) rfl ?_
      show oW p e below T8 (oF_law m 88 (oi p0) (oi 1) (oi 0) (oi 0) (oR s1n) (oi 0) [(.int 0), (.int 0)]) _
      refine XS.icmpNo X8.here hx rfl (hb hby at_88) rfl (teq (by decide : (0 : Int32) = (0 : Int32))).2 ?_
      show oW p e below T8 (oF_law m 91 (oi p0) (oi 1) (oi 0) (oi 0) (oR s1n) (oi 0) []) _
      refine XS.iconst X8.here hx rfl (hb hby at_91) ?_
      show oW p e below T8 (oF_law m 92 (oi p0) (oi 1) (oi 0) (oi 0) (oR s1n) (oi 0) [(.int 1)]) _
      refine XS.goto X8.here hx rfl (pc0 := 92) (pc' := 96) rfl (hb hby at_92) (by decide) (by decide) ?_
      exact k) ?_
    obtain ⟨fs, hr, hrun, hended, hRW⟩ := X8.leaveW Sn0 (by rw [eh8]; exact hk0) (v := some (.int (nar .boolean (1 : Int32)))) (fun h => by rw [Bd.returns] at h; cases h)
    refine ⟨_, _, retN X8 hx (t := .boolean) Bd.returns (by simp) (hb hby at_96) hr, hPf _ _ ⟨hrun, hended, _, _, rfl, ?_, hRW.1, hRW.2.1, hRW.2.2.1, hRW.2.2.2.mono (by decide) (by decide)⟩⟩
    show own_Q_law Z p0 tn ktn s0n s1n s2n s3n s4n s5n cz fm dg cld s0b cl0n s1b cl1n s2b cl2n s3b cl3n s4b cl4n s5b cl5n h0 n0 _ T8.heap _
    rw [eh8]
    exact ⟨rfl, N8⟩
  · subst c7
    refine own_go (A := oW p e below s₁ (oF_law m 6 (oi p0) (oi 2) .unset .unset .unset .unset [(.int 2)])) (fun t k => by
      refine XS.iloadN X0.here hx rfl (hb hby at_5) rfl ?_
      exact k) ?_
    obtain ⟨_, _, ⟨T9, L9, k9, n9⟩, -, X9, ⟨Lc9, hQ9, l9, y9, z9⟩, st9⟩ := Jvm.LawKit.callS X0 hx (y := (⟨"com/example/feeder/feeder/adapters/FrameFormat", "isConfiguration", "(I)Z"⟩ : MethodName)) hown (mvT hZ ow0) (mvT hZ ow1) (mvT hZ ow2) (mvT hZ ow3) (by decide) (backOf (W := 0) (own_rm_isC2 l Z a0 hw []  h0 n0 Z0 ) hZ ow3 ow2 (by decide) (by decide)) (g := (oF_law m 6 (oi p0) (oi 2) .unset .unset .unset .unset [(.int 2)])) rfl (by rw [hml]; rfl) (argsL := [(.int 2)]) (rest := []) (lenOf own_pd_28I29Z rfl) rfl (by show 2 * 0 + _ ≤ _; exact Nat.le_of_eq rfl) (hb hby at_6) (fun _ _ => ⟨rfl, e0, (by decide : 0 + 0 ≤ _), (by decide : 0 + 0 ≤ _)⟩)
    dsimp only [Pt.U, Pt.locs, Pt.cells, Pt.slots] at X9 l9 y9 z9 st9 hQ9
    subst l9 y9 z9
    obtain ⟨rfl, N9q, eh9⟩ := hQ9
    have N9 := Fr.app N0 N9q
    refine own_go st9 ?_
    refine own_go (A := oW p e below T9 (oF_law m 26 (oi p0) (oi 2) (oi 1) (oi 1) .unset .unset [(.int 2)])) (fun t k => by
      refine XS.istoreN X9.here hx rfl (hb hby at_9) rfl (l' := #[(oi p0), (oi 2), (oi 1), .unset, .unset, .unset]) rfl ?_
      show oW p e below T9 (oF_law m 10 (oi p0) (oi 2) (oi 1) .unset .unset .unset []) _
      refine XS.bipush X9.here hx rfl (hb hby at_10) ?_
      show oW p e below T9 (oF_law m 12 (oi p0) (oi 2) (oi 1) .unset .unset .unset [(.int 44)]) _
      refine XS.iloadN X9.here hx rfl (hb hby at_12) rfl ?_
      show oW p e below T9 (oF_law m 13 (oi p0) (oi 2) (oi 1) .unset .unset .unset [(.int 2), (.int 44)]) _
      refine XS.ishr X9.here hx rfl (hb hby at_13) rfl ?_
      show oW p e below T9 (oF_law m 14 (oi p0) (oi 2) (oi 1) .unset .unset .unset [(.int 11)]) _
      refine XS.iconst X9.here hx rfl (hb hby at_14) ?_
      show oW p e below T9 (oF_law m 15 (oi p0) (oi 2) (oi 1) .unset .unset .unset [(.int 1), (.int 11)]) _
      refine XS.iand X9.here hx rfl (hb hby at_15) rfl ?_
      show oW p e below T9 (oF_law m 16 (oi p0) (oi 2) (oi 1) .unset .unset .unset [(.int 1)]) _
      refine XS.ifNo X9.here hx rfl (hb hby at_16) rfl ((if0 _ _).trans (feq (by decide : ¬ ((1 : Int32) = (0 : Int32)))).1) ?_
      show oW p e below T9 (oF_law m 19 (oi p0) (oi 2) (oi 1) .unset .unset .unset []) _
      refine XS.iconst X9.here hx rfl (hb hby at_19) ?_
      show oW p e below T9 (oF_law m 20 (oi p0) (oi 2) (oi 1) .unset .unset .unset [(.int 1)]) _
      refine XS.goto X9.here hx rfl (pc0 := 20) (pc' := 24) rfl (hb hby at_20) (by decide) (by decide) ?_
      show oW p e below T9 (oF_law m 24 (oi p0) (oi 2) (oi 1) .unset .unset .unset [(.int 1)]) _
      refine XS.istoreN X9.here hx rfl (hb hby at_24) rfl (l' := #[(oi p0), (oi 2), (oi 1), (oi 1), .unset, .unset]) rfl ?_
      show oW p e below T9 (oF_law m 25 (oi p0) (oi 2) (oi 1) (oi 1) .unset .unset []) _
      refine XS.iloadN X9.here hx rfl (hb hby at_25) rfl ?_
      exact k) ?_
    obtain ⟨_, _, ⟨T10, L10, k10, n10⟩, -, X10, ⟨Lc10, hQ10, l10, y10, z10⟩, st10⟩ := Jvm.LawKit.callS X9 hx (y := (⟨"com/example/feeder/feeder/adapters/FrameFormat", "typeName", "(I)Ljava/lang/String;"⟩ : MethodName)) hown (mvT hZ ow4) (mvT hZ ow5) (mvT hZ ow2) (mvT hZ ow6) (by decide) (backOf (W := 0) (own_rm_tyN2 l Z a0 hw [] tn ktn s0n s1n s2n s3n s4n s5n h0 n0 Z0 St0 Vt0) hZ ow6 ow2 (by decide) (by decide)) (g := (oF_law m 26 (oi p0) (oi 2) (oi 1) (oi 1) .unset .unset [(.int 2)])) rfl (by rw [hml]; rfl) (argsL := [(.int 2)]) (rest := []) (lenOf own_pd_28I29Ljava2flang2fString3b rfl) rfl (by show 2 * 0 + _ ≤ _; exact Nat.le_of_eq rfl) (hb hby at_26) (fun _ _ => ⟨rfl, eh9, (by decide : 0 + 0 ≤ _), (by decide : 0 + 0 ≤ _)⟩)
    dsimp only [Pt.U, Pt.locs, Pt.cells, Pt.slots] at X10 l10 y10 z10 st10 hQ10
    subst l10 y10 z10
    obtain ⟨rfl, N10q, eh10⟩ := hQ10
    have N10 := Fr.app N9 N10q
    refine own_go st10 ?_
    refine own_go (A := oW p e below T10 (oF_law m 33 (oi p0) (oi 2) (oi 1) (oi 1) (oR s2n) .unset [(.ref s2n)])) (fun t k => by
      refine XS.astore X10.here hx rfl (hb hby at_29) rfl rfl (l' := #[(oi p0), (oi 2), (oi 1), (oi 1), (oR s2n), .unset]) rfl ?_
      show oW p e below T10 (oF_law m 31 (oi p0) (oi 2) (oi 1) (oi 1) (oR s2n) .unset []) _
      refine XS.aload X10.here hx rfl (hb hby at_31) rfl rfl ?_
      exact k) ?_
    obtain ⟨cq11, kq11, q11a, q11b, q11c⟩ := isOf hZ eh10 xe2e
    obtain ⟨_, _, ⟨T11, L11, k11, n11⟩, -, X11, ⟨Lc11, hQ11, l11, y11, z11⟩, st11⟩ := X10.virtualBack hx (y := (⟨"java/lang/String", "length", "()I"⟩ : MethodName)) (z := (⟨"java/lang/String", "length", "()I"⟩ : MethodName)) hown (mvT hZ ow9) (mvT hZ ow10) (notFace_of_selects (args := #[]) (mvT hZ ow12)) (mvT hZ ow12) (mvT hZ ow11) (by decide) (backOf (W := 0) (own_rm_len l Z a0 hw [] s2n cz s2b cl2n (5 : Int32) h0 n0 Z0 Sc0 hcz xe2t xe2c xe2v xe2e) hZ ow14 ow13 (by decide) (by decide)) q11a q11c (g := (oF_law m 33 (oi p0) (oi 2) (oi 1) (oi 1) (oR s2n) .unset [(.ref s2n)])) rfl (by rw [hml]; rfl) (Steps.refl _) (argsL := []) (rest := []) (lenOf own_pd_2829I rfl) rfl (by show 2 * 0 + _ ≤ _; exact Nat.le_of_eq rfl) (hb hby at_33) (fun _ _ => ⟨rfl, eh10, (by decide : 0 + 0 ≤ _), (by decide : 0 + 0 ≤ _)⟩)
    dsimp only [Pt.U, Pt.locs, Pt.cells, Pt.slots] at X11 l11 y11 z11 st11 hQ11
    subst l11 y11 z11
    obtain ⟨rfl, N11q, eh11⟩ := hQ11
    have N11 := Fr.app N10 N11q
    refine own_go (fun _ k => st11.trans k) ?_
    refine own_go (A := oW p e below T11 (oF_law m 43 (oi p0) (oi 2) (oi 1) (oi 1) (oR s2n) .unset [(.int 0), (.ref s2n)])) (fun t k => by
      refine XS.iconst X11.here hx rfl (hb hby at_36) ?_
      show oW p e below T11 (oF_law m 37 (oi p0) (oi 2) (oi 1) (oi 1) (oR s2n) .unset [(.int 3), (.int 5)]) _
      refine XS.icmpNo X11.here hx rfl (hb hby at_37) rfl (flt (by decide : ¬ ((5 : Int32) < (3 : Int32)))).1 ?_
      show oW p e below T11 (oF_law m 40 (oi p0) (oi 2) (oi 1) (oi 1) (oR s2n) .unset []) _
      refine XS.aload X11.here hx rfl (hb hby at_40) rfl rfl ?_
      show oW p e below T11 (oF_law m 42 (oi p0) (oi 2) (oi 1) (oi 1) (oR s2n) .unset [(.ref s2n)]) _
      refine XS.iconst X11.here hx rfl (hb hby at_42) ?_
      exact k) ?_
    obtain ⟨cq12, kq12, q12a, q12b, q12c⟩ := isOf hZ eh11 xe2e
    obtain ⟨_, _, ⟨T12, L12, k12, n12⟩, -, X12, ⟨Lc12, hQ12, l12, y12, z12⟩, st12⟩ := X11.virtualBack hx (y := (⟨"java/lang/String", "charAt", "(I)C"⟩ : MethodName)) (z := (⟨"java/lang/String", "charAt", "(I)C"⟩ : MethodName)) hown (mvT hZ ow25) (mvT hZ ow26) (notFace_of_selects (args := #[]) (mvT hZ ow28)) (mvT hZ ow28) (mvT hZ ow27) (by decide) (backOf (W := 0) (own_rm_chA l Z a0 hw [] s2n (0 : Int32) cz fm s2b cl2n (5 : Int32) h0 n0 Z0 Sc0 hcz Sf0 hfm xe2t ⟨by decide, by decide⟩ xe2c xe2v xe2e) hZ ow29 ow13 (by decide) (by decide)) q12a q12c (g := (oF_law m 43 (oi p0) (oi 2) (oi 1) (oi 1) (oR s2n) .unset [(.int 0), (.ref s2n)])) rfl (by rw [hml]; rfl) (Steps.refl _) (argsL := [(.int 0)]) (rest := []) (lenOf own_pd_28I29C rfl) rfl (by show 2 * 0 + _ ≤ _; exact Nat.le_of_eq rfl) (hb hby at_43) (fun _ _ => ⟨rfl, eh11, (by decide : 0 + 0 ≤ _), (by decide : 0 + 0 ≤ _)⟩)
    dsimp only [Pt.U, Pt.locs, Pt.cells, Pt.slots] at X12 l12 y12 z12 st12 hQ12
    subst l12 y12 z12
    obtain ⟨rfl, N12q, eh12⟩ := hQ12
    have N12 := Fr.app N11 N12q
    refine own_go (fun _ k => st12.trans k) ?_
    refine own_go (A := oW p e below T12 (oF_law m 54 (oi p0) (oi 2) (oi 1) (oi 1) (oR s2n) .unset [(.int 1), (.ref s2n)])) (fun t k => by
      refine XS.bipush X12.here hx rfl (hb hby at_46) ?_
      show oW p e below T12 (oF_law m 48 (oi p0) (oi 2) (oi 1) (oi 1) (oR s2n) .unset [(.int 67), (.int (own_ch (atv cl2n (0 : Int32))))]) _
      refine XS.icmpNo X12.here hx rfl (hb hby at_48) rfl (teq (by rw [xb20n]; decide : (own_ch (atv cl2n (0 : Int32))) = (67 : Int32))).2 ?_
      show oW p e below T12 (oF_law m 51 (oi p0) (oi 2) (oi 1) (oi 1) (oR s2n) .unset []) _
      refine XS.aload X12.here hx rfl (hb hby at_51) rfl rfl ?_
      show oW p e below T12 (oF_law m 53 (oi p0) (oi 2) (oi 1) (oi 1) (oR s2n) .unset [(.ref s2n)]) _
      refine XS.iconst X12.here hx rfl (hb hby at_53) ?_
      exact k) ?_
    obtain ⟨cq13, kq13, q13a, q13b, q13c⟩ := isOf hZ eh12 xe2e
    obtain ⟨_, _, ⟨T13, L13, k13, n13⟩, -, X13, ⟨Lc13, hQ13, l13, y13, z13⟩, st13⟩ := X12.virtualBack hx (y := (⟨"java/lang/String", "charAt", "(I)C"⟩ : MethodName)) (z := (⟨"java/lang/String", "charAt", "(I)C"⟩ : MethodName)) hown (mvT hZ ow25) (mvT hZ ow26) (notFace_of_selects (args := #[]) (mvT hZ ow28)) (mvT hZ ow28) (mvT hZ ow27) (by decide) (backOf (W := 0) (own_rm_chA l Z a0 hw [] s2n (1 : Int32) cz fm s2b cl2n (5 : Int32) h0 n0 Z0 Sc0 hcz Sf0 hfm xe2t ⟨by decide, by decide⟩ xe2c xe2v xe2e) hZ ow29 ow13 (by decide) (by decide)) q13a q13c (g := (oF_law m 54 (oi p0) (oi 2) (oi 1) (oi 1) (oR s2n) .unset [(.int 1), (.ref s2n)])) rfl (by rw [hml]; rfl) (Steps.refl _) (argsL := [(.int 1)]) (rest := []) (lenOf own_pd_28I29C rfl) rfl (by show 2 * 0 + _ ≤ _; exact Nat.le_of_eq rfl) (hb hby at_54) (fun _ _ => ⟨rfl, eh12, (by decide : 0 + 0 ≤ _), (by decide : 0 + 0 ≤ _)⟩)
    dsimp only [Pt.U, Pt.locs, Pt.cells, Pt.slots] at X13 l13 y13 z13 st13 hQ13
    subst l13 y13 z13
    obtain ⟨rfl, N13q, eh13⟩ := hQ13
    have N13 := Fr.app N12 N13q
    refine own_go (fun _ k => st13.trans k) ?_
    refine own_go (A := oW p e below T13 (oF_law m 65 (oi p0) (oi 2) (oi 1) (oi 1) (oR s2n) .unset [(.int 2), (.ref s2n)])) (fun t k => by
      refine XS.bipush X13.here hx rfl (hb hby at_57) ?_
      show oW p e below T13 (oF_law m 59 (oi p0) (oi 2) (oi 1) (oi 1) (oR s2n) .unset [(.int 70), (.int (own_ch (atv cl2n (1 : Int32))))]) _
      refine XS.icmpNo X13.here hx rfl (hb hby at_59) rfl (teq (by rw [xb21n]; decide : (own_ch (atv cl2n (1 : Int32))) = (70 : Int32))).2 ?_
      show oW p e below T13 (oF_law m 62 (oi p0) (oi 2) (oi 1) (oi 1) (oR s2n) .unset []) _
      refine XS.aload X13.here hx rfl (hb hby at_62) rfl rfl ?_
      show oW p e below T13 (oF_law m 64 (oi p0) (oi 2) (oi 1) (oi 1) (oR s2n) .unset [(.ref s2n)]) _
      refine XS.iconst X13.here hx rfl (hb hby at_64) ?_
      exact k) ?_
    obtain ⟨cq14, kq14, q14a, q14b, q14c⟩ := isOf hZ eh13 xe2e
    obtain ⟨_, _, ⟨T14, L14, k14, n14⟩, -, X14, ⟨Lc14, hQ14, l14, y14, z14⟩, st14⟩ := X13.virtualBack hx (y := (⟨"java/lang/String", "charAt", "(I)C"⟩ : MethodName)) (z := (⟨"java/lang/String", "charAt", "(I)C"⟩ : MethodName)) hown (mvT hZ ow25) (mvT hZ ow26) (notFace_of_selects (args := #[]) (mvT hZ ow28)) (mvT hZ ow28) (mvT hZ ow27) (by decide) (backOf (W := 0) (own_rm_chA l Z a0 hw [] s2n (2 : Int32) cz fm s2b cl2n (5 : Int32) h0 n0 Z0 Sc0 hcz Sf0 hfm xe2t ⟨by decide, by decide⟩ xe2c xe2v xe2e) hZ ow29 ow13 (by decide) (by decide)) q14a q14c (g := (oF_law m 65 (oi p0) (oi 2) (oi 1) (oi 1) (oR s2n) .unset [(.int 2), (.ref s2n)])) rfl (by rw [hml]; rfl) (Steps.refl _) (argsL := [(.int 2)]) (rest := []) (lenOf own_pd_28I29C rfl) rfl (by show 2 * 0 + _ ≤ _; exact Nat.le_of_eq rfl) (hb hby at_65) (fun _ _ => ⟨rfl, eh13, (by decide : 0 + 0 ≤ _), (by decide : 0 + 0 ≤ _)⟩)
    dsimp only [Pt.U, Pt.locs, Pt.cells, Pt.slots] at X14 l14 y14 z14 st14 hQ14
    subst l14 y14 z14
    obtain ⟨rfl, N14q, eh14⟩ := hQ14
    have N14 := Fr.app N13 N14q
    refine own_go (fun _ k => st14.trans k) ?_
    refine own_go (A := oW p e below T14 (oF_law m 96 (oi p0) (oi 2) (oi 1) (oi 1) (oR s2n) (oi 1) [(.int 1)])) (fun t k => by
      refine XS.bipush X14.here hx rfl (hb hby at_68) ?_
      show oW p e below T14 (oF_law m 70 (oi p0) (oi 2) (oi 1) (oi 1) (oR s2n) .unset [(.int 71), (.int (own_ch (atv cl2n (2 : Int32))))]) _
      refine XS.icmpNo X14.here hx rfl (hb hby at_70) rfl (teq (by rw [xb22n]; decide : (own_ch (atv cl2n (2 : Int32))) = (71 : Int32))).2 ?_
      show oW p e below T14 (oF_law m 73 (oi p0) (oi 2) (oi 1) (oi 1) (oR s2n) .unset []) _
      refine XS.iconst X14.here hx rfl (hb hby at_73) ?_
      show oW p e below T14 (oF_law m 74 (oi p0) (oi 2) (oi 1) (oi 1) (oR s2n) .unset [(.int 1)]) _
      refine XS.goto X14.here hx rfl (pc0 := 74) (pc' := 78) rfl (hb hby at_74) (by decide) (by decide) ?_
      show oW p e below T14 (oF_law m 78 (oi p0) (oi 2) (oi 1) (oi 1) (oR s2n) .unset [(.int 1)]) _
      refine XS.istore X14.here hx rfl (hb hby at_78) rfl (l' := #[(oi p0), (oi 2), (oi 1), (oi 1), (oR s2n), (oi 1)]) rfl ?_
      show oW p e below T14 (oF_law m 80 (oi p0) (oi 2) (oi 1) (oi 1) (oR s2n) (oi 1) []) _
      refine XS.iloadN X14.here hx rfl (hb hby at_80) rfl ?_
      show oW p e below T14 (oF_law m 81 (oi p0) (oi 2) (oi 1) (oi 1) (oR s2n) (oi 1) [(.int 1)]) _
      refine XS.iloadN X14.here hx rfl (hb hby at_81) rfl ?_
      show oW p e below T14 (oF_law m 82 (oi p0) (oi 2) (oi 1) (oi 1) (oR s2n) (oi 1) [(.int 1), (.int 1)]) _
      refine XS.icmpNo X14.here hx rfl (hb hby at_82) rfl (teq (by decide : (1 : Int32) = (1 : Int32))).2 ?_
      show oW p e below T14 (oF_law m 85 (oi p0) (oi 2) (oi 1) (oi 1) (oR s2n) (oi 1) []) _
      refine XS.iloadN X14.here hx rfl (hb hby at_85) rfl ?_
      show oW p e below T14 (oF_law m 86 (oi p0) (oi 2) (oi 1) (oi 1) (oR s2n) (oi 1) [(.int 1)]) _
      refine XS.iload X14.here hx rfl (hb hby at_86) rfl ?_
      show oW p e below T14 (oF_law m 88 (oi p0) (oi 2) (oi 1) (oi 1) (oR s2n) (oi 1) [(.int 1), (.int 1)]) _
      refine XS.icmpNo X14.here hx rfl (hb hby at_88) rfl (teq (by decide : (1 : Int32) = (1 : Int32))).2 ?_
      show oW p e below T14 (oF_law m 91 (oi p0) (oi 2) (oi 1) (oi 1) (oR s2n) (oi 1) []) _
      refine XS.iconst X14.here hx rfl (hb hby at_91) ?_
      show oW p e below T14 (oF_law m 92 (oi p0) (oi 2) (oi 1) (oi 1) (oR s2n) (oi 1) [(.int 1)]) _
      refine XS.goto X14.here hx rfl (pc0 := 92) (pc' := 96) rfl (hb hby at_92) (by decide) (by decide) ?_
      exact k) ?_
    obtain ⟨fs, hr, hrun, hended, hRW⟩ := X14.leaveW Sn0 (by rw [eh14]; exact hk0) (v := some (.int (nar .boolean (1 : Int32)))) (fun h => by rw [Bd.returns] at h; cases h)
    refine ⟨_, _, retN X14 hx (t := .boolean) Bd.returns (by simp) (hb hby at_96) hr, hPf _ _ ⟨hrun, hended, _, _, rfl, ?_, hRW.1, hRW.2.1, hRW.2.2.1, hRW.2.2.2.mono (by decide) (by decide)⟩⟩
    show own_Q_law Z p0 tn ktn s0n s1n s2n s3n s4n s5n cz fm dg cld s0b cl0n s1b cl1n s2b cl2n s3b cl3n s4b cl4n s5b cl5n h0 n0 _ T14.heap _
    rw [eh14]
    exact ⟨rfl, N14⟩
  · subst c7
    refine own_go (A := oW p e below s₁ (oF_law m 6 (oi p0) (oi 3) .unset .unset .unset .unset [(.int 3)])) (fun t k => by
      refine XS.iloadN X0.here hx rfl (hb hby at_5) rfl ?_
      exact k) ?_
    obtain ⟨_, _, ⟨T15, L15, k15, n15⟩, -, X15, ⟨Lc15, hQ15, l15, y15, z15⟩, st15⟩ := Jvm.LawKit.callS X0 hx (y := (⟨"com/example/feeder/feeder/adapters/FrameFormat", "isConfiguration", "(I)Z"⟩ : MethodName)) hown (mvT hZ ow0) (mvT hZ ow1) (mvT hZ ow2) (mvT hZ ow3) (by decide) (backOf (W := 0) (own_rm_isC3 l Z a0 hw []  h0 n0 Z0 ) hZ ow3 ow2 (by decide) (by decide)) (g := (oF_law m 6 (oi p0) (oi 3) .unset .unset .unset .unset [(.int 3)])) rfl (by rw [hml]; rfl) (argsL := [(.int 3)]) (rest := []) (lenOf own_pd_28I29Z rfl) rfl (by show 2 * 0 + _ ≤ _; exact Nat.le_of_eq rfl) (hb hby at_6) (fun _ _ => ⟨rfl, e0, (by decide : 0 + 0 ≤ _), (by decide : 0 + 0 ≤ _)⟩)
    dsimp only [Pt.U, Pt.locs, Pt.cells, Pt.slots] at X15 l15 y15 z15 st15 hQ15
    subst l15 y15 z15
    obtain ⟨rfl, N15q, eh15⟩ := hQ15
    have N15 := Fr.app N0 N15q
    refine own_go st15 ?_
    refine own_go (A := oW p e below T15 (oF_law m 26 (oi p0) (oi 3) (oi 1) (oi 1) .unset .unset [(.int 3)])) (fun t k => by
      refine XS.istoreN X15.here hx rfl (hb hby at_9) rfl (l' := #[(oi p0), (oi 3), (oi 1), .unset, .unset, .unset]) rfl ?_
      show oW p e below T15 (oF_law m 10 (oi p0) (oi 3) (oi 1) .unset .unset .unset []) _
      refine XS.bipush X15.here hx rfl (hb hby at_10) ?_
      show oW p e below T15 (oF_law m 12 (oi p0) (oi 3) (oi 1) .unset .unset .unset [(.int 44)]) _
      refine XS.iloadN X15.here hx rfl (hb hby at_12) rfl ?_
      show oW p e below T15 (oF_law m 13 (oi p0) (oi 3) (oi 1) .unset .unset .unset [(.int 3), (.int 44)]) _
      refine XS.ishr X15.here hx rfl (hb hby at_13) rfl ?_
      show oW p e below T15 (oF_law m 14 (oi p0) (oi 3) (oi 1) .unset .unset .unset [(.int 5)]) _
      refine XS.iconst X15.here hx rfl (hb hby at_14) ?_
      show oW p e below T15 (oF_law m 15 (oi p0) (oi 3) (oi 1) .unset .unset .unset [(.int 1), (.int 5)]) _
      refine XS.iand X15.here hx rfl (hb hby at_15) rfl ?_
      show oW p e below T15 (oF_law m 16 (oi p0) (oi 3) (oi 1) .unset .unset .unset [(.int 1)]) _
      refine XS.ifNo X15.here hx rfl (hb hby at_16) rfl ((if0 _ _).trans (feq (by decide : ¬ ((1 : Int32) = (0 : Int32)))).1) ?_
      show oW p e below T15 (oF_law m 19 (oi p0) (oi 3) (oi 1) .unset .unset .unset []) _
      refine XS.iconst X15.here hx rfl (hb hby at_19) ?_
      show oW p e below T15 (oF_law m 20 (oi p0) (oi 3) (oi 1) .unset .unset .unset [(.int 1)]) _
      refine XS.goto X15.here hx rfl (pc0 := 20) (pc' := 24) rfl (hb hby at_20) (by decide) (by decide) ?_
      show oW p e below T15 (oF_law m 24 (oi p0) (oi 3) (oi 1) .unset .unset .unset [(.int 1)]) _
      refine XS.istoreN X15.here hx rfl (hb hby at_24) rfl (l' := #[(oi p0), (oi 3), (oi 1), (oi 1), .unset, .unset]) rfl ?_
      show oW p e below T15 (oF_law m 25 (oi p0) (oi 3) (oi 1) (oi 1) .unset .unset []) _
      refine XS.iloadN X15.here hx rfl (hb hby at_25) rfl ?_
      exact k) ?_
    obtain ⟨_, _, ⟨T16, L16, k16, n16⟩, -, X16, ⟨Lc16, hQ16, l16, y16, z16⟩, st16⟩ := Jvm.LawKit.callS X15 hx (y := (⟨"com/example/feeder/feeder/adapters/FrameFormat", "typeName", "(I)Ljava/lang/String;"⟩ : MethodName)) hown (mvT hZ ow4) (mvT hZ ow5) (mvT hZ ow2) (mvT hZ ow6) (by decide) (backOf (W := 0) (own_rm_tyN3 l Z a0 hw [] tn ktn s0n s1n s2n s3n s4n s5n h0 n0 Z0 St0 Vt0) hZ ow6 ow2 (by decide) (by decide)) (g := (oF_law m 26 (oi p0) (oi 3) (oi 1) (oi 1) .unset .unset [(.int 3)])) rfl (by rw [hml]; rfl) (argsL := [(.int 3)]) (rest := []) (lenOf own_pd_28I29Ljava2flang2fString3b rfl) rfl (by show 2 * 0 + _ ≤ _; exact Nat.le_of_eq rfl) (hb hby at_26) (fun _ _ => ⟨rfl, eh15, (by decide : 0 + 0 ≤ _), (by decide : 0 + 0 ≤ _)⟩)
    dsimp only [Pt.U, Pt.locs, Pt.cells, Pt.slots] at X16 l16 y16 z16 st16 hQ16
    subst l16 y16 z16
    obtain ⟨rfl, N16q, eh16⟩ := hQ16
    have N16 := Fr.app N15 N16q
    refine own_go st16 ?_
    refine own_go (A := oW p e below T16 (oF_law m 33 (oi p0) (oi 3) (oi 1) (oi 1) (oR s3n) .unset [(.ref s3n)])) (fun t k => by
      refine XS.astore X16.here hx rfl (hb hby at_29) rfl rfl (l' := #[(oi p0), (oi 3), (oi 1), (oi 1), (oR s3n), .unset]) rfl ?_
      show oW p e below T16 (oF_law m 31 (oi p0) (oi 3) (oi 1) (oi 1) (oR s3n) .unset []) _
      refine XS.aload X16.here hx rfl (hb hby at_31) rfl rfl ?_
      exact k) ?_
    obtain ⟨cq17, kq17, q17a, q17b, q17c⟩ := isOf hZ eh16 xe3e
    obtain ⟨_, _, ⟨T17, L17, k17, n17⟩, -, X17, ⟨Lc17, hQ17, l17, y17, z17⟩, st17⟩ := X16.virtualBack hx (y := (⟨"java/lang/String", "length", "()I"⟩ : MethodName)) (z := (⟨"java/lang/String", "length", "()I"⟩ : MethodName)) hown (mvT hZ ow9) (mvT hZ ow10) (notFace_of_selects (args := #[]) (mvT hZ ow12)) (mvT hZ ow12) (mvT hZ ow11) (by decide) (backOf (W := 0) (own_rm_len l Z a0 hw [] s3n cz s3b cl3n (5 : Int32) h0 n0 Z0 Sc0 hcz xe3t xe3c xe3v xe3e) hZ ow14 ow13 (by decide) (by decide)) q17a q17c (g := (oF_law m 33 (oi p0) (oi 3) (oi 1) (oi 1) (oR s3n) .unset [(.ref s3n)])) rfl (by rw [hml]; rfl) (Steps.refl _) (argsL := []) (rest := []) (lenOf own_pd_2829I rfl) rfl (by show 2 * 0 + _ ≤ _; exact Nat.le_of_eq rfl) (hb hby at_33) (fun _ _ => ⟨rfl, eh16, (by decide : 0 + 0 ≤ _), (by decide : 0 + 0 ≤ _)⟩)
    dsimp only [Pt.U, Pt.locs, Pt.cells, Pt.slots] at X17 l17 y17 z17 st17 hQ17
    subst l17 y17 z17
    obtain ⟨rfl, N17q, eh17⟩ := hQ17
    have N17 := Fr.app N16 N17q
    refine own_go (fun _ k => st17.trans k) ?_
    refine own_go (A := oW p e below T17 (oF_law m 43 (oi p0) (oi 3) (oi 1) (oi 1) (oR s3n) .unset [(.int 0), (.ref s3n)])) (fun t k => by
      refine XS.iconst X17.here hx rfl (hb hby at_36) ?_
      show oW p e below T17 (oF_law m 37 (oi p0) (oi 3) (oi 1) (oi 1) (oR s3n) .unset [(.int 3), (.int 5)]) _
      refine XS.icmpNo X17.here hx rfl (hb hby at_37) rfl (flt (by decide : ¬ ((5 : Int32) < (3 : Int32)))).1 ?_
      show oW p e below T17 (oF_law m 40 (oi p0) (oi 3) (oi 1) (oi 1) (oR s3n) .unset []) _
      refine XS.aload X17.here hx rfl (hb hby at_40) rfl rfl ?_
      show oW p e below T17 (oF_law m 42 (oi p0) (oi 3) (oi 1) (oi 1) (oR s3n) .unset [(.ref s3n)]) _
      refine XS.iconst X17.here hx rfl (hb hby at_42) ?_
      exact k) ?_
    obtain ⟨cq18, kq18, q18a, q18b, q18c⟩ := isOf hZ eh17 xe3e
    obtain ⟨_, _, ⟨T18, L18, k18, n18⟩, -, X18, ⟨Lc18, hQ18, l18, y18, z18⟩, st18⟩ := X17.virtualBack hx (y := (⟨"java/lang/String", "charAt", "(I)C"⟩ : MethodName)) (z := (⟨"java/lang/String", "charAt", "(I)C"⟩ : MethodName)) hown (mvT hZ ow25) (mvT hZ ow26) (notFace_of_selects (args := #[]) (mvT hZ ow28)) (mvT hZ ow28) (mvT hZ ow27) (by decide) (backOf (W := 0) (own_rm_chA l Z a0 hw [] s3n (0 : Int32) cz fm s3b cl3n (5 : Int32) h0 n0 Z0 Sc0 hcz Sf0 hfm xe3t ⟨by decide, by decide⟩ xe3c xe3v xe3e) hZ ow29 ow13 (by decide) (by decide)) q18a q18c (g := (oF_law m 43 (oi p0) (oi 3) (oi 1) (oi 1) (oR s3n) .unset [(.int 0), (.ref s3n)])) rfl (by rw [hml]; rfl) (Steps.refl _) (argsL := [(.int 0)]) (rest := []) (lenOf own_pd_28I29C rfl) rfl (by show 2 * 0 + _ ≤ _; exact Nat.le_of_eq rfl) (hb hby at_43) (fun _ _ => ⟨rfl, eh17, (by decide : 0 + 0 ≤ _), (by decide : 0 + 0 ≤ _)⟩)
    dsimp only [Pt.U, Pt.locs, Pt.cells, Pt.slots] at X18 l18 y18 z18 st18 hQ18
    subst l18 y18 z18
    obtain ⟨rfl, N18q, eh18⟩ := hQ18
    have N18 := Fr.app N17 N18q
    refine own_go (fun _ k => st18.trans k) ?_
    refine own_go (A := oW p e below T18 (oF_law m 54 (oi p0) (oi 3) (oi 1) (oi 1) (oR s3n) .unset [(.int 1), (.ref s3n)])) (fun t k => by
      refine XS.bipush X18.here hx rfl (hb hby at_46) ?_
      show oW p e below T18 (oF_law m 48 (oi p0) (oi 3) (oi 1) (oi 1) (oR s3n) .unset [(.int 67), (.int (own_ch (atv cl3n (0 : Int32))))]) _
      refine XS.icmpNo X18.here hx rfl (hb hby at_48) rfl (teq (by rw [xb30n]; decide : (own_ch (atv cl3n (0 : Int32))) = (67 : Int32))).2 ?_
      show oW p e below T18 (oF_law m 51 (oi p0) (oi 3) (oi 1) (oi 1) (oR s3n) .unset []) _
      refine XS.aload X18.here hx rfl (hb hby at_51) rfl rfl ?_
      show oW p e below T18 (oF_law m 53 (oi p0) (oi 3) (oi 1) (oi 1) (oR s3n) .unset [(.ref s3n)]) _
      refine XS.iconst X18.here hx rfl (hb hby at_53) ?_
      exact k) ?_
    obtain ⟨cq19, kq19, q19a, q19b, q19c⟩ := isOf hZ eh18 xe3e
    obtain ⟨_, _, ⟨T19, L19, k19, n19⟩, -, X19, ⟨Lc19, hQ19, l19, y19, z19⟩, st19⟩ := X18.virtualBack hx (y := (⟨"java/lang/String", "charAt", "(I)C"⟩ : MethodName)) (z := (⟨"java/lang/String", "charAt", "(I)C"⟩ : MethodName)) hown (mvT hZ ow25) (mvT hZ ow26) (notFace_of_selects (args := #[]) (mvT hZ ow28)) (mvT hZ ow28) (mvT hZ ow27) (by decide) (backOf (W := 0) (own_rm_chA l Z a0 hw [] s3n (1 : Int32) cz fm s3b cl3n (5 : Int32) h0 n0 Z0 Sc0 hcz Sf0 hfm xe3t ⟨by decide, by decide⟩ xe3c xe3v xe3e) hZ ow29 ow13 (by decide) (by decide)) q19a q19c (g := (oF_law m 54 (oi p0) (oi 3) (oi 1) (oi 1) (oR s3n) .unset [(.int 1), (.ref s3n)])) rfl (by rw [hml]; rfl) (Steps.refl _) (argsL := [(.int 1)]) (rest := []) (lenOf own_pd_28I29C rfl) rfl (by show 2 * 0 + _ ≤ _; exact Nat.le_of_eq rfl) (hb hby at_54) (fun _ _ => ⟨rfl, eh18, (by decide : 0 + 0 ≤ _), (by decide : 0 + 0 ≤ _)⟩)
    dsimp only [Pt.U, Pt.locs, Pt.cells, Pt.slots] at X19 l19 y19 z19 st19 hQ19
    subst l19 y19 z19
    obtain ⟨rfl, N19q, eh19⟩ := hQ19
    have N19 := Fr.app N18 N19q
    refine own_go (fun _ k => st19.trans k) ?_
    refine own_go (A := oW p e below T19 (oF_law m 65 (oi p0) (oi 3) (oi 1) (oi 1) (oR s3n) .unset [(.int 2), (.ref s3n)])) (fun t k => by
      refine XS.bipush X19.here hx rfl (hb hby at_57) ?_
      show oW p e below T19 (oF_law m 59 (oi p0) (oi 3) (oi 1) (oi 1) (oR s3n) .unset [(.int 70), (.int (own_ch (atv cl3n (1 : Int32))))]) _
      refine XS.icmpNo X19.here hx rfl (hb hby at_59) rfl (teq (by rw [xb31n]; decide : (own_ch (atv cl3n (1 : Int32))) = (70 : Int32))).2 ?_
      show oW p e below T19 (oF_law m 62 (oi p0) (oi 3) (oi 1) (oi 1) (oR s3n) .unset []) _
      refine XS.aload X19.here hx rfl (hb hby at_62) rfl rfl ?_
      show oW p e below T19 (oF_law m 64 (oi p0) (oi 3) (oi 1) (oi 1) (oR s3n) .unset [(.ref s3n)]) _
      refine XS.iconst X19.here hx rfl (hb hby at_64) ?_
      exact k) ?_
    obtain ⟨cq20, kq20, q20a, q20b, q20c⟩ := isOf hZ eh19 xe3e
    obtain ⟨_, _, ⟨T20, L20, k20, n20⟩, -, X20, ⟨Lc20, hQ20, l20, y20, z20⟩, st20⟩ := X19.virtualBack hx (y := (⟨"java/lang/String", "charAt", "(I)C"⟩ : MethodName)) (z := (⟨"java/lang/String", "charAt", "(I)C"⟩ : MethodName)) hown (mvT hZ ow25) (mvT hZ ow26) (notFace_of_selects (args := #[]) (mvT hZ ow28)) (mvT hZ ow28) (mvT hZ ow27) (by decide) (backOf (W := 0) (own_rm_chA l Z a0 hw [] s3n (2 : Int32) cz fm s3b cl3n (5 : Int32) h0 n0 Z0 Sc0 hcz Sf0 hfm xe3t ⟨by decide, by decide⟩ xe3c xe3v xe3e) hZ ow29 ow13 (by decide) (by decide)) q20a q20c (g := (oF_law m 65 (oi p0) (oi 3) (oi 1) (oi 1) (oR s3n) .unset [(.int 2), (.ref s3n)])) rfl (by rw [hml]; rfl) (Steps.refl _) (argsL := [(.int 2)]) (rest := []) (lenOf own_pd_28I29C rfl) rfl (by show 2 * 0 + _ ≤ _; exact Nat.le_of_eq rfl) (hb hby at_65) (fun _ _ => ⟨rfl, eh19, (by decide : 0 + 0 ≤ _), (by decide : 0 + 0 ≤ _)⟩)
    dsimp only [Pt.U, Pt.locs, Pt.cells, Pt.slots] at X20 l20 y20 z20 st20 hQ20
    subst l20 y20 z20
    obtain ⟨rfl, N20q, eh20⟩ := hQ20
    have N20 := Fr.app N19 N20q
    refine own_go (fun _ k => st20.trans k) ?_
    refine own_go (A := oW p e below T20 (oF_law m 96 (oi p0) (oi 3) (oi 1) (oi 1) (oR s3n) (oi 1) [(.int 1)])) (fun t k => by
      refine XS.bipush X20.here hx rfl (hb hby at_68) ?_
      show oW p e below T20 (oF_law m 70 (oi p0) (oi 3) (oi 1) (oi 1) (oR s3n) .unset [(.int 71), (.int (own_ch (atv cl3n (2 : Int32))))]) _
      refine XS.icmpNo X20.here hx rfl (hb hby at_70) rfl (teq (by rw [xb32n]; decide : (own_ch (atv cl3n (2 : Int32))) = (71 : Int32))).2 ?_
      show oW p e below T20 (oF_law m 73 (oi p0) (oi 3) (oi 1) (oi 1) (oR s3n) .unset []) _
      refine XS.iconst X20.here hx rfl (hb hby at_73) ?_
      show oW p e below T20 (oF_law m 74 (oi p0) (oi 3) (oi 1) (oi 1) (oR s3n) .unset [(.int 1)]) _
      refine XS.goto X20.here hx rfl (pc0 := 74) (pc' := 78) rfl (hb hby at_74) (by decide) (by decide) ?_
      show oW p e below T20 (oF_law m 78 (oi p0) (oi 3) (oi 1) (oi 1) (oR s3n) .unset [(.int 1)]) _
      refine XS.istore X20.here hx rfl (hb hby at_78) rfl (l' := #[(oi p0), (oi 3), (oi 1), (oi 1), (oR s3n), (oi 1)]) rfl ?_
      show oW p e below T20 (oF_law m 80 (oi p0) (oi 3) (oi 1) (oi 1) (oR s3n) (oi 1) []) _
      refine XS.iloadN X20.here hx rfl (hb hby at_80) rfl ?_
      show oW p e below T20 (oF_law m 81 (oi p0) (oi 3) (oi 1) (oi 1) (oR s3n) (oi 1) [(.int 1)]) _
      refine XS.iloadN X20.here hx rfl (hb hby at_81) rfl ?_
      show oW p e below T20 (oF_law m 82 (oi p0) (oi 3) (oi 1) (oi 1) (oR s3n) (oi 1) [(.int 1), (.int 1)]) _
      refine XS.icmpNo X20.here hx rfl (hb hby at_82) rfl (teq (by decide : (1 : Int32) = (1 : Int32))).2 ?_
      show oW p e below T20 (oF_law m 85 (oi p0) (oi 3) (oi 1) (oi 1) (oR s3n) (oi 1) []) _
      refine XS.iloadN X20.here hx rfl (hb hby at_85) rfl ?_
      show oW p e below T20 (oF_law m 86 (oi p0) (oi 3) (oi 1) (oi 1) (oR s3n) (oi 1) [(.int 1)]) _
      refine XS.iload X20.here hx rfl (hb hby at_86) rfl ?_
      show oW p e below T20 (oF_law m 88 (oi p0) (oi 3) (oi 1) (oi 1) (oR s3n) (oi 1) [(.int 1), (.int 1)]) _
      refine XS.icmpNo X20.here hx rfl (hb hby at_88) rfl (teq (by decide : (1 : Int32) = (1 : Int32))).2 ?_
      show oW p e below T20 (oF_law m 91 (oi p0) (oi 3) (oi 1) (oi 1) (oR s3n) (oi 1) []) _
      refine XS.iconst X20.here hx rfl (hb hby at_91) ?_
      show oW p e below T20 (oF_law m 92 (oi p0) (oi 3) (oi 1) (oi 1) (oR s3n) (oi 1) [(.int 1)]) _
      refine XS.goto X20.here hx rfl (pc0 := 92) (pc' := 96) rfl (hb hby at_92) (by decide) (by decide) ?_
      exact k) ?_
    obtain ⟨fs, hr, hrun, hended, hRW⟩ := X20.leaveW Sn0 (by rw [eh20]; exact hk0) (v := some (.int (nar .boolean (1 : Int32)))) (fun h => by rw [Bd.returns] at h; cases h)
    refine ⟨_, _, retN X20 hx (t := .boolean) Bd.returns (by simp) (hb hby at_96) hr, hPf _ _ ⟨hrun, hended, _, _, rfl, ?_, hRW.1, hRW.2.1, hRW.2.2.1, hRW.2.2.2.mono (by decide) (by decide)⟩⟩
    show own_Q_law Z p0 tn ktn s0n s1n s2n s3n s4n s5n cz fm dg cld s0b cl0n s1b cl1n s2b cl2n s3b cl3n s4b cl4n s5b cl5n h0 n0 _ T20.heap _
    rw [eh20]
    exact ⟨rfl, N20⟩
  · subst c7
    refine own_go (A := oW p e below s₁ (oF_law m 6 (oi p0) (oi 4) .unset .unset .unset .unset [(.int 4)])) (fun t k => by
      refine XS.iloadN X0.here hx rfl (hb hby at_5) rfl ?_
      exact k) ?_
    obtain ⟨_, _, ⟨T21, L21, k21, n21⟩, -, X21, ⟨Lc21, hQ21, l21, y21, z21⟩, st21⟩ := Jvm.LawKit.callS X0 hx (y := (⟨"com/example/feeder/feeder/adapters/FrameFormat", "isConfiguration", "(I)Z"⟩ : MethodName)) hown (mvT hZ ow0) (mvT hZ ow1) (mvT hZ ow2) (mvT hZ ow3) (by decide) (backOf (W := 0) (own_rm_isC4 l Z a0 hw []  h0 n0 Z0 ) hZ ow3 ow2 (by decide) (by decide)) (g := (oF_law m 6 (oi p0) (oi 4) .unset .unset .unset .unset [(.int 4)])) rfl (by rw [hml]; rfl) (argsL := [(.int 4)]) (rest := []) (lenOf own_pd_28I29Z rfl) rfl (by show 2 * 0 + _ ≤ _; exact Nat.le_of_eq rfl) (hb hby at_6) (fun _ _ => ⟨rfl, e0, (by decide : 0 + 0 ≤ _), (by decide : 0 + 0 ≤ _)⟩)
    dsimp only [Pt.U, Pt.locs, Pt.cells, Pt.slots] at X21 l21 y21 z21 st21 hQ21
    subst l21 y21 z21
    obtain ⟨rfl, N21q, eh21⟩ := hQ21
    have N21 := Fr.app N0 N21q
    refine own_go st21 ?_
    refine own_go (A := oW p e below T21 (oF_law m 26 (oi p0) (oi 4) (oi 0) (oi 0) .unset .unset [(.int 4)])) (fun t k => by
      refine XS.istoreN X21.here hx rfl (hb hby at_9) rfl (l' := #[(oi p0), (oi 4), (oi 0), .unset, .unset, .unset]) rfl ?_
      show oW p e below T21 (oF_law m 10 (oi p0) (oi 4) (oi 0) .unset .unset .unset []) _
      refine XS.bipush X21.here hx rfl (hb hby at_10) ?_
      show oW p e below T21 (oF_law m 12 (oi p0) (oi 4) (oi 0) .unset .unset .unset [(.int 44)]) _
      refine XS.iloadN X21.here hx rfl (hb hby at_12) rfl ?_
      show oW p e below T21 (oF_law m 13 (oi p0) (oi 4) (oi 0) .unset .unset .unset [(.int 4), (.int 44)]) _
      refine XS.ishr X21.here hx rfl (hb hby at_13) rfl ?_
      show oW p e below T21 (oF_law m 14 (oi p0) (oi 4) (oi 0) .unset .unset .unset [(.int 2)]) _
      refine XS.iconst X21.here hx rfl (hb hby at_14) ?_
      show oW p e below T21 (oF_law m 15 (oi p0) (oi 4) (oi 0) .unset .unset .unset [(.int 1), (.int 2)]) _
      refine XS.iand X21.here hx rfl (hb hby at_15) rfl ?_
      show oW p e below T21 (oF_law m 16 (oi p0) (oi 4) (oi 0) .unset .unset .unset [(.int 0)]) _
      refine XS.ifYes X21.here hx rfl (pc0 := 16) (pc' := 23) rfl (hb hby at_16) rfl ((if0 _ _).trans (teq (by decide : (0 : Int32) = (0 : Int32))).1) (by decide) (by decide) ?_
      show oW p e below T21 (oF_law m 23 (oi p0) (oi 4) (oi 0) .unset .unset .unset []) _
      refine XS.iconst X21.here hx rfl (hb hby at_23) ?_
      show oW p e below T21 (oF_law m 24 (oi p0) (oi 4) (oi 0) .unset .unset .unset [(.int 0)]) _
      refine XS.istoreN X21.here hx rfl (hb hby at_24) rfl (l' := #[(oi p0), (oi 4), (oi 0), (oi 0), .unset, .unset]) rfl ?_
      show oW p e below T21 (oF_law m 25 (oi p0) (oi 4) (oi 0) (oi 0) .unset .unset []) _
      refine XS.iloadN X21.here hx rfl (hb hby at_25) rfl ?_
      exact k) ?_
    obtain ⟨_, _, ⟨T22, L22, k22, n22⟩, -, X22, ⟨Lc22, hQ22, l22, y22, z22⟩, st22⟩ := Jvm.LawKit.callS X21 hx (y := (⟨"com/example/feeder/feeder/adapters/FrameFormat", "typeName", "(I)Ljava/lang/String;"⟩ : MethodName)) hown (mvT hZ ow4) (mvT hZ ow5) (mvT hZ ow2) (mvT hZ ow6) (by decide) (backOf (W := 0) (own_rm_tyN4 l Z a0 hw [] tn ktn s0n s1n s2n s3n s4n s5n h0 n0 Z0 St0 Vt0) hZ ow6 ow2 (by decide) (by decide)) (g := (oF_law m 26 (oi p0) (oi 4) (oi 0) (oi 0) .unset .unset [(.int 4)])) rfl (by rw [hml]; rfl) (argsL := [(.int 4)]) (rest := []) (lenOf own_pd_28I29Ljava2flang2fString3b rfl) rfl (by show 2 * 0 + _ ≤ _; exact Nat.le_of_eq rfl) (hb hby at_26) (fun _ _ => ⟨rfl, eh21, (by decide : 0 + 0 ≤ _), (by decide : 0 + 0 ≤ _)⟩)
    dsimp only [Pt.U, Pt.locs, Pt.cells, Pt.slots] at X22 l22 y22 z22 st22 hQ22
    subst l22 y22 z22
    obtain ⟨rfl, N22q, eh22⟩ := hQ22
    have N22 := Fr.app N21 N22q
    refine own_go st22 ?_
    refine own_go (A := oW p e below T22 (oF_law m 33 (oi p0) (oi 4) (oi 0) (oi 0) (oR s4n) .unset [(.ref s4n)])) (fun t k => by
      refine XS.astore X22.here hx rfl (hb hby at_29) rfl rfl (l' := #[(oi p0), (oi 4), (oi 0), (oi 0), (oR s4n), .unset]) rfl ?_
      show oW p e below T22 (oF_law m 31 (oi p0) (oi 4) (oi 0) (oi 0) (oR s4n) .unset []) _
      refine XS.aload X22.here hx rfl (hb hby at_31) rfl rfl ?_
      exact k) ?_
    obtain ⟨cq23, kq23, q23a, q23b, q23c⟩ := isOf hZ eh22 xe4e
    obtain ⟨_, _, ⟨T23, L23, k23, n23⟩, -, X23, ⟨Lc23, hQ23, l23, y23, z23⟩, st23⟩ := X22.virtualBack hx (y := (⟨"java/lang/String", "length", "()I"⟩ : MethodName)) (z := (⟨"java/lang/String", "length", "()I"⟩ : MethodName)) hown (mvT hZ ow9) (mvT hZ ow10) (notFace_of_selects (args := #[]) (mvT hZ ow12)) (mvT hZ ow12) (mvT hZ ow11) (by decide) (backOf (W := 0) (own_rm_len l Z a0 hw [] s4n cz s4b cl4n (7 : Int32) h0 n0 Z0 Sc0 hcz xe4t xe4c xe4v xe4e) hZ ow14 ow13 (by decide) (by decide)) q23a q23c (g := (oF_law m 33 (oi p0) (oi 4) (oi 0) (oi 0) (oR s4n) .unset [(.ref s4n)])) rfl (by rw [hml]; rfl) (Steps.refl _) (argsL := []) (rest := []) (lenOf own_pd_2829I rfl) rfl (by show 2 * 0 + _ ≤ _; exact Nat.le_of_eq rfl) (hb hby at_33) (fun _ _ => ⟨rfl, eh22, (by decide : 0 + 0 ≤ _), (by decide : 0 + 0 ≤ _)⟩)
    dsimp only [Pt.U, Pt.locs, Pt.cells, Pt.slots] at X23 l23 y23 z23 st23 hQ23
    subst l23 y23 z23
    obtain ⟨rfl, N23q, eh23⟩ := hQ23
    have N23 := Fr.app N22 N23q
    refine own_go (fun _ k => st23.trans k) ?_
    refine own_go (A := oW p e below T23 (oF_law m 43 (oi p0) (oi 4) (oi 0) (oi 0) (oR s4n) .unset [(.int 0), (.ref s4n)])) (fun t k => by
      refine XS.iconst X23.here hx rfl (hb hby at_36) ?_
      show oW p e below T23 (oF_law m 37 (oi p0) (oi 4) (oi 0) (oi 0) (oR s4n) .unset [(.int 3), (.int 7)]) _
      refine XS.icmpNo X23.here hx rfl (hb hby at_37) rfl (flt (by decide : ¬ ((7 : Int32) < (3 : Int32)))).1 ?_
      show oW p e below T23 (oF_law m 40 (oi p0) (oi 4) (oi 0) (oi 0) (oR s4n) .unset []) _
      refine XS.aload X23.here hx rfl (hb hby at_40) rfl rfl ?_
      show oW p e below T23 (oF_law m 42 (oi p0) (oi 4) (oi 0) (oi 0) (oR s4n) .unset [(.ref s4n)]) _
      refine XS.iconst X23.here hx rfl (hb hby at_42) ?_
      exact k) ?_
    obtain ⟨cq24, kq24, q24a, q24b, q24c⟩ := isOf hZ eh23 xe4e
    obtain ⟨_, _, ⟨T24, L24, k24, n24⟩, -, X24, ⟨Lc24, hQ24, l24, y24, z24⟩, st24⟩ := X23.virtualBack hx (y := (⟨"java/lang/String", "charAt", "(I)C"⟩ : MethodName)) (z := (⟨"java/lang/String", "charAt", "(I)C"⟩ : MethodName)) hown (mvT hZ ow25) (mvT hZ ow26) (notFace_of_selects (args := #[]) (mvT hZ ow28)) (mvT hZ ow28) (mvT hZ ow27) (by decide) (backOf (W := 0) (own_rm_chA l Z a0 hw [] s4n (0 : Int32) cz fm s4b cl4n (7 : Int32) h0 n0 Z0 Sc0 hcz Sf0 hfm xe4t ⟨by decide, by decide⟩ xe4c xe4v xe4e) hZ ow29 ow13 (by decide) (by decide)) q24a q24c (g := (oF_law m 43 (oi p0) (oi 4) (oi 0) (oi 0) (oR s4n) .unset [(.int 0), (.ref s4n)])) rfl (by rw [hml]; rfl) (Steps.refl _) (argsL := [(.int 0)]) (rest := []) (lenOf own_pd_28I29C rfl) rfl (by show 2 * 0 + _ ≤ _; exact Nat.le_of_eq rfl) (hb hby at_43) (fun _ _ => ⟨rfl, eh23, (by decide : 0 + 0 ≤ _), (by decide : 0 + 0 ≤ _)⟩)
    dsimp only [Pt.U, Pt.locs, Pt.cells, Pt.slots] at X24 l24 y24 z24 st24 hQ24
    subst l24 y24 z24
    obtain ⟨rfl, N24q, eh24⟩ := hQ24
    have N24 := Fr.app N23 N24q
    refine own_go (fun _ k => st24.trans k) ?_
    refine own_go (A := oW p e below T24 (oF_law m 96 (oi p0) (oi 4) (oi 0) (oi 0) (oR s4n) (oi 0) [(.int 1)])) (fun t k => by
      refine XS.bipush X24.here hx rfl (hb hby at_46) ?_
      show oW p e below T24 (oF_law m 48 (oi p0) (oi 4) (oi 0) (oi 0) (oR s4n) .unset [(.int 67), (.int (own_ch (atv cl4n (0 : Int32))))]) _
      refine XS.icmpYes X24.here hx rfl (pc0 := 48) (pc' := 77) rfl (hb hby at_48) rfl (feq (by rw [xb40n]; decide : ¬ ((own_ch (atv cl4n (0 : Int32))) = (67 : Int32)))).2 (by decide) (by decide) ?_
      show oW p e below T24 (oF_law m 77 (oi p0) (oi 4) (oi 0) (oi 0) (oR s4n) .unset []) _
      refine XS.iconst X24.here hx rfl (hb hby at_77) ?_
      show oW p e below T24 (oF_law m 78 (oi p0) (oi 4) (oi 0) (oi 0) (oR s4n) .unset [(.int 0)]) _
      refine XS.istore X24.here hx rfl (hb hby at_78) rfl (l' := #[(oi p0), (oi 4), (oi 0), (oi 0), (oR s4n), (oi 0)]) rfl ?_
      show oW p e below T24 (oF_law m 80 (oi p0) (oi 4) (oi 0) (oi 0) (oR s4n) (oi 0) []) _
      refine XS.iloadN X24.here hx rfl (hb hby at_80) rfl ?_
      show oW p e below T24 (oF_law m 81 (oi p0) (oi 4) (oi 0) (oi 0) (oR s4n) (oi 0) [(.int 0)]) _
      refine XS.iloadN X24.here hx rfl (hb hby at_81) rfl ?_
      show oW p e below T24 (oF_law m 82 (oi p0) (oi 4) (oi 0) (oi 0) (oR s4n) (oi 0) [(.int 0), (.int 0)]) _
      refine XS.icmpNo X24.here hx rfl (hb hby at_82) rfl (teq (by decide : (0 : Int32) = (0 : Int32))).2 ?_
      show oW p e below T24 (oF_law m 85 (oi p0) (oi 4) (oi 0) (oi 0) (oR s4n) (oi 0) []) _
      refine XS.iloadN X24.here hx rfl (hb hby at_85) rfl ?_
      show oW p e below T24 (oF_law m 86 (oi p0) (oi 4) (oi 0) (oi 0) (oR s4n) (oi 0) [(.int 0)]) _
      refine XS.iload X24.here hx rfl (hb hby at_86) rfl ?_
      show oW p e below T24 (oF_law m 88 (oi p0) (oi 4) (oi 0) (oi 0) (oR s4n) (oi 0) [(.int 0), (.int 0)]) _
      refine XS.icmpNo X24.here hx rfl (hb hby at_88) rfl (teq (by decide : (0 : Int32) = (0 : Int32))).2 ?_
      show oW p e below T24 (oF_law m 91 (oi p0) (oi 4) (oi 0) (oi 0) (oR s4n) (oi 0) []) _
      refine XS.iconst X24.here hx rfl (hb hby at_91) ?_
      show oW p e below T24 (oF_law m 92 (oi p0) (oi 4) (oi 0) (oi 0) (oR s4n) (oi 0) [(.int 1)]) _
      refine XS.goto X24.here hx rfl (pc0 := 92) (pc' := 96) rfl (hb hby at_92) (by decide) (by decide) ?_
      exact k) ?_
    obtain ⟨fs, hr, hrun, hended, hRW⟩ := X24.leaveW Sn0 (by rw [eh24]; exact hk0) (v := some (.int (nar .boolean (1 : Int32)))) (fun h => by rw [Bd.returns] at h; cases h)
    refine ⟨_, _, retN X24 hx (t := .boolean) Bd.returns (by simp) (hb hby at_96) hr, hPf _ _ ⟨hrun, hended, _, _, rfl, ?_, hRW.1, hRW.2.1, hRW.2.2.1, hRW.2.2.2.mono (by decide) (by decide)⟩⟩
    show own_Q_law Z p0 tn ktn s0n s1n s2n s3n s4n s5n cz fm dg cld s0b cl0n s1b cl1n s2b cl2n s3b cl3n s4b cl4n s5b cl5n h0 n0 _ T24.heap _
    rw [eh24]
    exact ⟨rfl, N24⟩
  · subst c7
    refine own_go (A := oW p e below s₁ (oF_law m 6 (oi p0) (oi 5) .unset .unset .unset .unset [(.int 5)])) (fun t k => by
      refine XS.iloadN X0.here hx rfl (hb hby at_5) rfl ?_
      exact k) ?_
    obtain ⟨_, _, ⟨T25, L25, k25, n25⟩, -, X25, ⟨Lc25, hQ25, l25, y25, z25⟩, st25⟩ := Jvm.LawKit.callS X0 hx (y := (⟨"com/example/feeder/feeder/adapters/FrameFormat", "isConfiguration", "(I)Z"⟩ : MethodName)) hown (mvT hZ ow0) (mvT hZ ow1) (mvT hZ ow2) (mvT hZ ow3) (by decide) (backOf (W := 0) (own_rm_isC5 l Z a0 hw []  h0 n0 Z0 ) hZ ow3 ow2 (by decide) (by decide)) (g := (oF_law m 6 (oi p0) (oi 5) .unset .unset .unset .unset [(.int 5)])) rfl (by rw [hml]; rfl) (argsL := [(.int 5)]) (rest := []) (lenOf own_pd_28I29Z rfl) rfl (by show 2 * 0 + _ ≤ _; exact Nat.le_of_eq rfl) (hb hby at_6) (fun _ _ => ⟨rfl, e0, (by decide : 0 + 0 ≤ _), (by decide : 0 + 0 ≤ _)⟩)
    dsimp only [Pt.U, Pt.locs, Pt.cells, Pt.slots] at X25 l25 y25 z25 st25 hQ25
    subst l25 y25 z25
    obtain ⟨rfl, N25q, eh25⟩ := hQ25
    have N25 := Fr.app N0 N25q
    refine own_go st25 ?_
    refine own_go (A := oW p e below T25 (oF_law m 26 (oi p0) (oi 5) (oi 1) (oi 1) .unset .unset [(.int 5)])) (fun t k => by
      refine XS.istoreN X25.here hx rfl (hb hby at_9) rfl (l' := #[(oi p0), (oi 5), (oi 1), .unset, .unset, .unset]) rfl ?_
      show oW p e below T25 (oF_law m 10 (oi p0) (oi 5) (oi 1) .unset .unset .unset []) _
      refine XS.bipush X25.here hx rfl (hb hby at_10) ?_
      show oW p e below T25 (oF_law m 12 (oi p0) (oi 5) (oi 1) .unset .unset .unset [(.int 44)]) _
      refine XS.iloadN X25.here hx rfl (hb hby at_12) rfl ?_
      show oW p e below T25 (oF_law m 13 (oi p0) (oi 5) (oi 1) .unset .unset .unset [(.int 5), (.int 44)]) _
      refine XS.ishr X25.here hx rfl (hb hby at_13) rfl ?_
      show oW p e below T25 (oF_law m 14 (oi p0) (oi 5) (oi 1) .unset .unset .unset [(.int 1)]) _
      refine XS.iconst X25.here hx rfl (hb hby at_14) ?_
      show oW p e below T25 (oF_law m 15 (oi p0) (oi 5) (oi 1) .unset .unset .unset [(.int 1), (.int 1)]) _
      refine XS.iand X25.here hx rfl (hb hby at_15) rfl ?_
      show oW p e below T25 (oF_law m 16 (oi p0) (oi 5) (oi 1) .unset .unset .unset [(.int 1)]) _
      refine XS.ifNo X25.here hx rfl (hb hby at_16) rfl ((if0 _ _).trans (feq (by decide : ¬ ((1 : Int32) = (0 : Int32)))).1) ?_
      show oW p e below T25 (oF_law m 19 (oi p0) (oi 5) (oi 1) .unset .unset .unset []) _
      refine XS.iconst X25.here hx rfl (hb hby at_19) ?_
      show oW p e below T25 (oF_law m 20 (oi p0) (oi 5) (oi 1) .unset .unset .unset [(.int 1)]) _
      refine XS.goto X25.here hx rfl (pc0 := 20) (pc' := 24) rfl (hb hby at_20) (by decide) (by decide) ?_
      show oW p e below T25 (oF_law m 24 (oi p0) (oi 5) (oi 1) .unset .unset .unset [(.int 1)]) _
      refine XS.istoreN X25.here hx rfl (hb hby at_24) rfl (l' := #[(oi p0), (oi 5), (oi 1), (oi 1), .unset, .unset]) rfl ?_
      show oW p e below T25 (oF_law m 25 (oi p0) (oi 5) (oi 1) (oi 1) .unset .unset []) _
      refine XS.iloadN X25.here hx rfl (hb hby at_25) rfl ?_
      exact k) ?_
    obtain ⟨_, _, ⟨T26, L26, k26, n26⟩, -, X26, ⟨Lc26, hQ26, l26, y26, z26⟩, st26⟩ := Jvm.LawKit.callS X25 hx (y := (⟨"com/example/feeder/feeder/adapters/FrameFormat", "typeName", "(I)Ljava/lang/String;"⟩ : MethodName)) hown (mvT hZ ow4) (mvT hZ ow5) (mvT hZ ow2) (mvT hZ ow6) (by decide) (backOf (W := 0) (own_rm_tyN5 l Z a0 hw [] tn ktn s0n s1n s2n s3n s4n s5n h0 n0 Z0 St0 Vt0) hZ ow6 ow2 (by decide) (by decide)) (g := (oF_law m 26 (oi p0) (oi 5) (oi 1) (oi 1) .unset .unset [(.int 5)])) rfl (by rw [hml]; rfl) (argsL := [(.int 5)]) (rest := []) (lenOf own_pd_28I29Ljava2flang2fString3b rfl) rfl (by show 2 * 0 + _ ≤ _; exact Nat.le_of_eq rfl) (hb hby at_26) (fun _ _ => ⟨rfl, eh25, (by decide : 0 + 0 ≤ _), (by decide : 0 + 0 ≤ _)⟩)
    dsimp only [Pt.U, Pt.locs, Pt.cells, Pt.slots] at X26 l26 y26 z26 st26 hQ26
    subst l26 y26 z26
    obtain ⟨rfl, N26q, eh26⟩ := hQ26
    have N26 := Fr.app N25 N26q
    refine own_go st26 ?_
    refine own_go (A := oW p e below T26 (oF_law m 33 (oi p0) (oi 5) (oi 1) (oi 1) (oR s5n) .unset [(.ref s5n)])) (fun t k => by
      refine XS.astore X26.here hx rfl (hb hby at_29) rfl rfl (l' := #[(oi p0), (oi 5), (oi 1), (oi 1), (oR s5n), .unset]) rfl ?_
      show oW p e below T26 (oF_law m 31 (oi p0) (oi 5) (oi 1) (oi 1) (oR s5n) .unset []) _
      refine XS.aload X26.here hx rfl (hb hby at_31) rfl rfl ?_
      exact k) ?_
    obtain ⟨cq27, kq27, q27a, q27b, q27c⟩ := isOf hZ eh26 xe5e
    obtain ⟨_, _, ⟨T27, L27, k27, n27⟩, -, X27, ⟨Lc27, hQ27, l27, y27, z27⟩, st27⟩ := X26.virtualBack hx (y := (⟨"java/lang/String", "length", "()I"⟩ : MethodName)) (z := (⟨"java/lang/String", "length", "()I"⟩ : MethodName)) hown (mvT hZ ow9) (mvT hZ ow10) (notFace_of_selects (args := #[]) (mvT hZ ow12)) (mvT hZ ow12) (mvT hZ ow11) (by decide) (backOf (W := 0) (own_rm_len l Z a0 hw [] s5n cz s5b cl5n (5 : Int32) h0 n0 Z0 Sc0 hcz xe5t xe5c xe5v xe5e) hZ ow14 ow13 (by decide) (by decide)) q27a q27c (g := (oF_law m 33 (oi p0) (oi 5) (oi 1) (oi 1) (oR s5n) .unset [(.ref s5n)])) rfl (by rw [hml]; rfl) (Steps.refl _) (argsL := []) (rest := []) (lenOf own_pd_2829I rfl) rfl (by show 2 * 0 + _ ≤ _; exact Nat.le_of_eq rfl) (hb hby at_33) (fun _ _ => ⟨rfl, eh26, (by decide : 0 + 0 ≤ _), (by decide : 0 + 0 ≤ _)⟩)
    dsimp only [Pt.U, Pt.locs, Pt.cells, Pt.slots] at X27 l27 y27 z27 st27 hQ27
    subst l27 y27 z27
    obtain ⟨rfl, N27q, eh27⟩ := hQ27
    have N27 := Fr.app N26 N27q
    refine own_go (fun _ k => st27.trans k) ?_
    refine own_go (A := oW p e below T27 (oF_law m 43 (oi p0) (oi 5) (oi 1) (oi 1) (oR s5n) .unset [(.int 0), (.ref s5n)])) (fun t k => by
      refine XS.iconst X27.here hx rfl (hb hby at_36) ?_
      show oW p e below T27 (oF_law m 37 (oi p0) (oi 5) (oi 1) (oi 1) (oR s5n) .unset [(.int 3), (.int 5)]) _
      refine XS.icmpNo X27.here hx rfl (hb hby at_37) rfl (flt (by decide : ¬ ((5 : Int32) < (3 : Int32)))).1 ?_
      show oW p e below T27 (oF_law m 40 (oi p0) (oi 5) (oi 1) (oi 1) (oR s5n) .unset []) _
      refine XS.aload X27.here hx rfl (hb hby at_40) rfl rfl ?_
      show oW p e below T27 (oF_law m 42 (oi p0) (oi 5) (oi 1) (oi 1) (oR s5n) .unset [(.ref s5n)]) _
      refine XS.iconst X27.here hx rfl (hb hby at_42) ?_
      exact k) ?_
    obtain ⟨cq28, kq28, q28a, q28b, q28c⟩ := isOf hZ eh27 xe5e
    obtain ⟨_, _, ⟨T28, L28, k28, n28⟩, -, X28, ⟨Lc28, hQ28, l28, y28, z28⟩, st28⟩ := X27.virtualBack hx (y := (⟨"java/lang/String", "charAt", "(I)C"⟩ : MethodName)) (z := (⟨"java/lang/String", "charAt", "(I)C"⟩ : MethodName)) hown (mvT hZ ow25) (mvT hZ ow26) (notFace_of_selects (args := #[]) (mvT hZ ow28)) (mvT hZ ow28) (mvT hZ ow27) (by decide) (backOf (W := 0) (own_rm_chA l Z a0 hw [] s5n (0 : Int32) cz fm s5b cl5n (5 : Int32) h0 n0 Z0 Sc0 hcz Sf0 hfm xe5t ⟨by decide, by decide⟩ xe5c xe5v xe5e) hZ ow29 ow13 (by decide) (by decide)) q28a q28c (g := (oF_law m 43 (oi p0) (oi 5) (oi 1) (oi 1) (oR s5n) .unset [(.int 0), (.ref s5n)])) rfl (by rw [hml]; rfl) (Steps.refl _) (argsL := [(.int 0)]) (rest := []) (lenOf own_pd_28I29C rfl) rfl (by show 2 * 0 + _ ≤ _; exact Nat.le_of_eq rfl) (hb hby at_43) (fun _ _ => ⟨rfl, eh27, (by decide : 0 + 0 ≤ _), (by decide : 0 + 0 ≤ _)⟩)
    dsimp only [Pt.U, Pt.locs, Pt.cells, Pt.slots] at X28 l28 y28 z28 st28 hQ28
    subst l28 y28 z28
    obtain ⟨rfl, N28q, eh28⟩ := hQ28
    have N28 := Fr.app N27 N28q
    refine own_go (fun _ k => st28.trans k) ?_
    refine own_go (A := oW p e below T28 (oF_law m 54 (oi p0) (oi 5) (oi 1) (oi 1) (oR s5n) .unset [(.int 1), (.ref s5n)])) (fun t k => by
      refine XS.bipush X28.here hx rfl (hb hby at_46) ?_
      show oW p e below T28 (oF_law m 48 (oi p0) (oi 5) (oi 1) (oi 1) (oR s5n) .unset [(.int 67), (.int (own_ch (atv cl5n (0 : Int32))))]) _
      refine XS.icmpNo X28.here hx rfl (hb hby at_48) rfl (teq (by rw [xb50n]; decide : (own_ch (atv cl5n (0 : Int32))) = (67 : Int32))).2 ?_
      show oW p e below T28 (oF_law m 51 (oi p0) (oi 5) (oi 1) (oi 1) (oR s5n) .unset []) _
      refine XS.aload X28.here hx rfl (hb hby at_51) rfl rfl ?_
      show oW p e below T28 (oF_law m 53 (oi p0) (oi 5) (oi 1) (oi 1) (oR s5n) .unset [(.ref s5n)]) _
      refine XS.iconst X28.here hx rfl (hb hby at_53) ?_
      exact k) ?_
    obtain ⟨cq29, kq29, q29a, q29b, q29c⟩ := isOf hZ eh28 xe5e
    obtain ⟨_, _, ⟨T29, L29, k29, n29⟩, -, X29, ⟨Lc29, hQ29, l29, y29, z29⟩, st29⟩ := X28.virtualBack hx (y := (⟨"java/lang/String", "charAt", "(I)C"⟩ : MethodName)) (z := (⟨"java/lang/String", "charAt", "(I)C"⟩ : MethodName)) hown (mvT hZ ow25) (mvT hZ ow26) (notFace_of_selects (args := #[]) (mvT hZ ow28)) (mvT hZ ow28) (mvT hZ ow27) (by decide) (backOf (W := 0) (own_rm_chA l Z a0 hw [] s5n (1 : Int32) cz fm s5b cl5n (5 : Int32) h0 n0 Z0 Sc0 hcz Sf0 hfm xe5t ⟨by decide, by decide⟩ xe5c xe5v xe5e) hZ ow29 ow13 (by decide) (by decide)) q29a q29c (g := (oF_law m 54 (oi p0) (oi 5) (oi 1) (oi 1) (oR s5n) .unset [(.int 1), (.ref s5n)])) rfl (by rw [hml]; rfl) (Steps.refl _) (argsL := [(.int 1)]) (rest := []) (lenOf own_pd_28I29C rfl) rfl (by show 2 * 0 + _ ≤ _; exact Nat.le_of_eq rfl) (hb hby at_54) (fun _ _ => ⟨rfl, eh28, (by decide : 0 + 0 ≤ _), (by decide : 0 + 0 ≤ _)⟩)
    dsimp only [Pt.U, Pt.locs, Pt.cells, Pt.slots] at X29 l29 y29 z29 st29 hQ29
    subst l29 y29 z29
    obtain ⟨rfl, N29q, eh29⟩ := hQ29
    have N29 := Fr.app N28 N29q
    refine own_go (fun _ k => st29.trans k) ?_
    refine own_go (A := oW p e below T29 (oF_law m 65 (oi p0) (oi 5) (oi 1) (oi 1) (oR s5n) .unset [(.int 2), (.ref s5n)])) (fun t k => by
      refine XS.bipush X29.here hx rfl (hb hby at_57) ?_
      show oW p e below T29 (oF_law m 59 (oi p0) (oi 5) (oi 1) (oi 1) (oR s5n) .unset [(.int 70), (.int (own_ch (atv cl5n (1 : Int32))))]) _
      refine XS.icmpNo X29.here hx rfl (hb hby at_59) rfl (teq (by rw [xb51n]; decide : (own_ch (atv cl5n (1 : Int32))) = (70 : Int32))).2 ?_
      show oW p e below T29 (oF_law m 62 (oi p0) (oi 5) (oi 1) (oi 1) (oR s5n) .unset []) _
      refine XS.aload X29.here hx rfl (hb hby at_62) rfl rfl ?_
      show oW p e below T29 (oF_law m 64 (oi p0) (oi 5) (oi 1) (oi 1) (oR s5n) .unset [(.ref s5n)]) _
      refine XS.iconst X29.here hx rfl (hb hby at_64) ?_
      exact k) ?_
    obtain ⟨cq30, kq30, q30a, q30b, q30c⟩ := isOf hZ eh29 xe5e
    obtain ⟨_, _, ⟨T30, L30, k30, n30⟩, -, X30, ⟨Lc30, hQ30, l30, y30, z30⟩, st30⟩ := X29.virtualBack hx (y := (⟨"java/lang/String", "charAt", "(I)C"⟩ : MethodName)) (z := (⟨"java/lang/String", "charAt", "(I)C"⟩ : MethodName)) hown (mvT hZ ow25) (mvT hZ ow26) (notFace_of_selects (args := #[]) (mvT hZ ow28)) (mvT hZ ow28) (mvT hZ ow27) (by decide) (backOf (W := 0) (own_rm_chA l Z a0 hw [] s5n (2 : Int32) cz fm s5b cl5n (5 : Int32) h0 n0 Z0 Sc0 hcz Sf0 hfm xe5t ⟨by decide, by decide⟩ xe5c xe5v xe5e) hZ ow29 ow13 (by decide) (by decide)) q30a q30c (g := (oF_law m 65 (oi p0) (oi 5) (oi 1) (oi 1) (oR s5n) .unset [(.int 2), (.ref s5n)])) rfl (by rw [hml]; rfl) (Steps.refl _) (argsL := [(.int 2)]) (rest := []) (lenOf own_pd_28I29C rfl) rfl (by show 2 * 0 + _ ≤ _; exact Nat.le_of_eq rfl) (hb hby at_65) (fun _ _ => ⟨rfl, eh29, (by decide : 0 + 0 ≤ _), (by decide : 0 + 0 ≤ _)⟩)
    dsimp only [Pt.U, Pt.locs, Pt.cells, Pt.slots] at X30 l30 y30 z30 st30 hQ30
    subst l30 y30 z30
    obtain ⟨rfl, N30q, eh30⟩ := hQ30
    have N30 := Fr.app N29 N30q
    refine own_go (fun _ k => st30.trans k) ?_
    refine own_go (A := oW p e below T30 (oF_law m 96 (oi p0) (oi 5) (oi 1) (oi 1) (oR s5n) (oi 1) [(.int 1)])) (fun t k => by
      refine XS.bipush X30.here hx rfl (hb hby at_68) ?_
      show oW p e below T30 (oF_law m 70 (oi p0) (oi 5) (oi 1) (oi 1) (oR s5n) .unset [(.int 71), (.int (own_ch (atv cl5n (2 : Int32))))]) _
      refine XS.icmpNo X30.here hx rfl (hb hby at_70) rfl (teq (by rw [xb52n]; decide : (own_ch (atv cl5n (2 : Int32))) = (71 : Int32))).2 ?_
      show oW p e below T30 (oF_law m 73 (oi p0) (oi 5) (oi 1) (oi 1) (oR s5n) .unset []) _
      refine XS.iconst X30.here hx rfl (hb hby at_73) ?_
      show oW p e below T30 (oF_law m 74 (oi p0) (oi 5) (oi 1) (oi 1) (oR s5n) .unset [(.int 1)]) _
      refine XS.goto X30.here hx rfl (pc0 := 74) (pc' := 78) rfl (hb hby at_74) (by decide) (by decide) ?_
      show oW p e below T30 (oF_law m 78 (oi p0) (oi 5) (oi 1) (oi 1) (oR s5n) .unset [(.int 1)]) _
      refine XS.istore X30.here hx rfl (hb hby at_78) rfl (l' := #[(oi p0), (oi 5), (oi 1), (oi 1), (oR s5n), (oi 1)]) rfl ?_
      show oW p e below T30 (oF_law m 80 (oi p0) (oi 5) (oi 1) (oi 1) (oR s5n) (oi 1) []) _
      refine XS.iloadN X30.here hx rfl (hb hby at_80) rfl ?_
      show oW p e below T30 (oF_law m 81 (oi p0) (oi 5) (oi 1) (oi 1) (oR s5n) (oi 1) [(.int 1)]) _
      refine XS.iloadN X30.here hx rfl (hb hby at_81) rfl ?_
      show oW p e below T30 (oF_law m 82 (oi p0) (oi 5) (oi 1) (oi 1) (oR s5n) (oi 1) [(.int 1), (.int 1)]) _
      refine XS.icmpNo X30.here hx rfl (hb hby at_82) rfl (teq (by decide : (1 : Int32) = (1 : Int32))).2 ?_
      show oW p e below T30 (oF_law m 85 (oi p0) (oi 5) (oi 1) (oi 1) (oR s5n) (oi 1) []) _
      refine XS.iloadN X30.here hx rfl (hb hby at_85) rfl ?_
      show oW p e below T30 (oF_law m 86 (oi p0) (oi 5) (oi 1) (oi 1) (oR s5n) (oi 1) [(.int 1)]) _
      refine XS.iload X30.here hx rfl (hb hby at_86) rfl ?_
      show oW p e below T30 (oF_law m 88 (oi p0) (oi 5) (oi 1) (oi 1) (oR s5n) (oi 1) [(.int 1), (.int 1)]) _
      refine XS.icmpNo X30.here hx rfl (hb hby at_88) rfl (teq (by decide : (1 : Int32) = (1 : Int32))).2 ?_
      show oW p e below T30 (oF_law m 91 (oi p0) (oi 5) (oi 1) (oi 1) (oR s5n) (oi 1) []) _
      refine XS.iconst X30.here hx rfl (hb hby at_91) ?_
      show oW p e below T30 (oF_law m 92 (oi p0) (oi 5) (oi 1) (oi 1) (oR s5n) (oi 1) [(.int 1)]) _
      refine XS.goto X30.here hx rfl (pc0 := 92) (pc' := 96) rfl (hb hby at_92) (by decide) (by decide) ?_
      exact k) ?_
    obtain ⟨fs, hr, hrun, hended, hRW⟩ := X30.leaveW Sn0 (by rw [eh30]; exact hk0) (v := some (.int (nar .boolean (1 : Int32)))) (fun h => by rw [Bd.returns] at h; cases h)
    refine ⟨_, _, retN X30 hx (t := .boolean) Bd.returns (by simp) (hb hby at_96) hr, hPf _ _ ⟨hrun, hended, _, _, rfl, ?_, hRW.1, hRW.2.1, hRW.2.2.1, hRW.2.2.2.mono (by decide) (by decide)⟩⟩
    show own_Q_law Z p0 tn ktn s0n s1n s2n s3n s4n s5n cz fm dg cld s0b cl0n s1b cl1n s2b cl2n s3b cl3n s4b cl4n s5b cl5n h0 n0 _ T30.heap _
    rw [eh30]
    exact ⟨rfl, N30⟩
  · subst c7
    refine own_go (A := oW p e below s₁ (oF_law m 6 (oi p0) (oi 6) .unset .unset .unset .unset [(.int 6)])) (fun t k => by
      refine XS.iloadN X0.here hx rfl (hb hby at_5) rfl ?_
      exact k) ?_
    obtain ⟨_, _, ⟨T31, L31, k31, n31⟩, -, X31, ⟨Lc31, hQ31, l31, y31, z31⟩, st31⟩ := Jvm.LawKit.callS X0 hx (y := (⟨"com/example/feeder/feeder/adapters/FrameFormat", "isConfiguration", "(I)Z"⟩ : MethodName)) hown (mvT hZ ow0) (mvT hZ ow1) (mvT hZ ow2) (mvT hZ ow3) (by decide) (backOf (W := 0) (own_rm_isC6 l Z a0 hw []  h0 n0 Z0 ) hZ ow3 ow2 (by decide) (by decide)) (g := (oF_law m 6 (oi p0) (oi 6) .unset .unset .unset .unset [(.int 6)])) rfl (by rw [hml]; rfl) (argsL := [(.int 6)]) (rest := []) (lenOf own_pd_28I29Z rfl) rfl (by show 2 * 0 + _ ≤ _; exact Nat.le_of_eq rfl) (hb hby at_6) (fun _ _ => ⟨rfl, e0, (by decide : 0 + 0 ≤ _), (by decide : 0 + 0 ≤ _)⟩)
    dsimp only [Pt.U, Pt.locs, Pt.cells, Pt.slots] at X31 l31 y31 z31 st31 hQ31
    subst l31 y31 z31
    obtain ⟨rfl, N31q, eh31⟩ := hQ31
    have N31 := Fr.app N0 N31q
    refine own_go st31 ?_
    refine own_go (A := oW p e below T31 (oF_law m 26 (oi p0) (oi 6) (oi 0) (oi 0) .unset .unset [(.int 6)])) (fun t k => by
      refine XS.istoreN X31.here hx rfl (hb hby at_9) rfl (l' := #[(oi p0), (oi 6), (oi 0), .unset, .unset, .unset]) rfl ?_
      show oW p e below T31 (oF_law m 10 (oi p0) (oi 6) (oi 0) .unset .unset .unset []) _
      refine XS.bipush X31.here hx rfl (hb hby at_10) ?_
      show oW p e below T31 (oF_law m 12 (oi p0) (oi 6) (oi 0) .unset .unset .unset [(.int 44)]) _
      refine XS.iloadN X31.here hx rfl (hb hby at_12) rfl ?_
      show oW p e below T31 (oF_law m 13 (oi p0) (oi 6) (oi 0) .unset .unset .unset [(.int 6), (.int 44)]) _
      refine XS.ishr X31.here hx rfl (hb hby at_13) rfl ?_
      show oW p e below T31 (oF_law m 14 (oi p0) (oi 6) (oi 0) .unset .unset .unset [(.int 0)]) _
      refine XS.iconst X31.here hx rfl (hb hby at_14) ?_
      show oW p e below T31 (oF_law m 15 (oi p0) (oi 6) (oi 0) .unset .unset .unset [(.int 1), (.int 0)]) _
      refine XS.iand X31.here hx rfl (hb hby at_15) rfl ?_
      show oW p e below T31 (oF_law m 16 (oi p0) (oi 6) (oi 0) .unset .unset .unset [(.int 0)]) _
      refine XS.ifYes X31.here hx rfl (pc0 := 16) (pc' := 23) rfl (hb hby at_16) rfl ((if0 _ _).trans (teq (by decide : (0 : Int32) = (0 : Int32))).1) (by decide) (by decide) ?_
      show oW p e below T31 (oF_law m 23 (oi p0) (oi 6) (oi 0) .unset .unset .unset []) _
      refine XS.iconst X31.here hx rfl (hb hby at_23) ?_
      show oW p e below T31 (oF_law m 24 (oi p0) (oi 6) (oi 0) .unset .unset .unset [(.int 0)]) _
      refine XS.istoreN X31.here hx rfl (hb hby at_24) rfl (l' := #[(oi p0), (oi 6), (oi 0), (oi 0), .unset, .unset]) rfl ?_
      show oW p e below T31 (oF_law m 25 (oi p0) (oi 6) (oi 0) (oi 0) .unset .unset []) _
      refine XS.iloadN X31.here hx rfl (hb hby at_25) rfl ?_
      exact k) ?_
    obtain ⟨_, _, ⟨T32, L32, k32, n32⟩, -, X32q, Sn32q, gr32, ⟨Lc32, hQ32, l32, y32, z32⟩, st32⟩ := callSS X31 hx (y := (⟨"com/example/feeder/feeder/adapters/FrameFormat", "typeName", "(I)Ljava/lang/String;"⟩ : MethodName)) hown (mvT hZ ow4) (mvT hZ ow5) (mvT hZ ow2) (mvT hZ ow6) (by decide) (own_backCH (W := 0) (own_rm_tyN6 l Z a0 hw [] tn ktn s0n s1n s2n s3n s4n s5n cz fm dg cld h0 n0 Z0 St0 Vt0 Sc0 hcz Sf0 hfm Sd0 Td0) hZ ow6 ow2 (by decide) (by decide) (own_EW hw) H0c) (g := (oF_law m 26 (oi p0) (oi 6) (oi 0) (oi 0) .unset .unset [(.int 6)])) rfl (by rw [hml]; rfl) (argsL := [(.int 6)]) (rest := []) (lenOf own_pd_28I29Ljava2flang2fString3b rfl) rfl (by show 2 * 0 + _ ≤ _; exact Nat.le_of_eq rfl) (hb hby at_26) (fun _ _ => ⟨rfl, eh31, (by decide : 0 + 6 ≤ _), (by decide : 0 + 54 ≤ _)⟩)
    dsimp only [Pt.U, Pt.locs, Pt.cells, Pt.slots] at X32q l32 y32 z32 st32 hQ32
    subst l32 y32 z32
    dsimp only [Pt.U] at Sn32q gr32
    obtain ⟨X32, Sn32, hZ32, hown32⟩ := rebS Sn0 (by rw [eh31]; exact hk0) X32q Sn32q gr32 hZ hown
    obtain ⟨so, nb, kn, rfl, N32q, p32_0, p32_1, p32_2, p32_3, p32_4, p32_5⟩ := hQ32
    have N32 := Fr.app N31 N32q
    have Z32 : n0 ≤ T32.heap.size := Nat.le_trans Z0 (by have q := gr32; rw [eh31] at q; exact q)
    refine own_go (fun _ k => st32.trans k) ?_
    have hk32c : T32.heap.size ≤ T32.heap.size := Nat.le_refl _
    refine own_go (A := oW p e below T32 (oF_law m 33 (oi p0) (oi 6) (oi 0) (oi 0) (oR so) .unset [(.ref so)])) (fun t k => by
      refine XS.astore X32.here hx rfl (hb hby at_29) rfl rfl (l' := #[(oi p0), (oi 6), (oi 0), (oi 0), (oR so), .unset]) rfl ?_
      show oW p e below T32 (oF_law m 31 (oi p0) (oi 6) (oi 0) (oi 0) (oR so) .unset []) _
      refine XS.aload X32.here hx rfl (hb hby at_31) rfl rfl ?_
      exact k) ?_
    obtain ⟨cq33, kq33, q33a, q33b, q33c⟩ := isOf hZ32 rfl p32_0
    obtain ⟨_, _, ⟨T33, L33, k33, n33⟩, -, X33, ⟨Lc33, hQ33, l33, y33, z33⟩, st33⟩ := X32.virtualBack hx (y := (⟨"java/lang/String", "length", "()I"⟩ : MethodName)) (z := (⟨"java/lang/String", "length", "()I"⟩ : MethodName)) hown32 (mvT hZ32 ow9) (mvT hZ32 ow10) (notFace_of_selects (args := #[]) (mvT hZ32 ow12)) (mvT hZ32 ow12) (mvT hZ32 ow11) (by decide) (backOf (W := 0) (own_rm_len6 l Z a0 hw [] so cz nb kn (116 : Int32) (121 : Int32) (112 : Int32) (101 : Int32) (32 : Int32) (nar .byte (atv cld (6 : Int32))) T32.heap n0 Z32 p32_4 hcz p32_0 p32_1 p32_2 p32_3) hZ32 ow14 ow13 (by decide) (by decide)) q33a q33c (g := (oF_law m 33 (oi p0) (oi 6) (oi 0) (oi 0) (oR so) .unset [(.ref so)])) rfl (by rw [hml]; rfl) (Steps.refl _) (argsL := []) (rest := []) (lenOf own_pd_2829I rfl) rfl (by show 2 * 0 + _ ≤ _; exact Nat.le_of_eq rfl) (hb hby at_33) (fun _ _ => ⟨rfl, rfl, (by decide : 6 + 0 ≤ _), (by decide : 54 + 0 ≤ _)⟩)
    dsimp only [Pt.U, Pt.locs, Pt.cells, Pt.slots] at X33 l33 y33 z33 st33 hQ33
    subst l33 y33 z33
    obtain ⟨rfl, N33q, eh33⟩ := hQ33
    have N33 := Fr.app N32 N33q
    refine own_go (fun _ k => st33.trans k) ?_
    refine own_go (A := oW p e below T33 (oF_law m 43 (oi p0) (oi 6) (oi 0) (oi 0) (oR so) .unset [(.int 0), (.ref so)])) (fun t k => by
      refine XS.iconst X33.here hx rfl (hb hby at_36) ?_
      show oW p e below T33 (oF_law m 37 (oi p0) (oi 6) (oi 0) (oi 0) (oR so) .unset [(.int 3), (.int 6)]) _
      refine XS.icmpNo X33.here hx rfl (hb hby at_37) rfl (flt (by decide : ¬ ((6 : Int32) < (3 : Int32)))).1 ?_
      show oW p e below T33 (oF_law m 40 (oi p0) (oi 6) (oi 0) (oi 0) (oR so) .unset []) _
      refine XS.aload X33.here hx rfl (hb hby at_40) rfl rfl ?_
      show oW p e below T33 (oF_law m 42 (oi p0) (oi 6) (oi 0) (oi 0) (oR so) .unset [(.ref so)]) _
      refine XS.iconst X33.here hx rfl (hb hby at_42) ?_
      exact k) ?_
    obtain ⟨cq34, kq34, q34a, q34b, q34c⟩ := isOf hZ32 eh33 p32_0
    obtain ⟨_, _, ⟨T34, L34, k34, n34⟩, -, X34, ⟨Lc34, hQ34, l34, y34, z34⟩, st34⟩ := X33.virtualBack hx (y := (⟨"java/lang/String", "charAt", "(I)C"⟩ : MethodName)) (z := (⟨"java/lang/String", "charAt", "(I)C"⟩ : MethodName)) hown32 (mvT hZ32 ow25) (mvT hZ32 ow26) (notFace_of_selects (args := #[]) (mvT hZ32 ow28)) (mvT hZ32 ow28) (mvT hZ32 ow27) (by decide) (backOf (W := 0) (own_rm_chA6 l Z a0 hw [] so cz fm nb kn (116 : Int32) (121 : Int32) (112 : Int32) (101 : Int32) (32 : Int32) (nar .byte (atv cld (6 : Int32))) T32.heap n0 Z32 p32_4 hcz p32_5 hfm p32_0 p32_1 p32_2 p32_3) hZ32 ow29 ow13 (by decide) (by decide)) q34a q34c (g := (oF_law m 43 (oi p0) (oi 6) (oi 0) (oi 0) (oR so) .unset [(.int 0), (.ref so)])) rfl (by rw [hml]; rfl) (Steps.refl _) (argsL := [(.int 0)]) (rest := []) (lenOf own_pd_28I29C rfl) rfl (by show 2 * 0 + _ ≤ _; exact Nat.le_of_eq rfl) (hb hby at_43) (fun _ _ => ⟨rfl, eh33, (by decide : 6 + 0 ≤ _), (by decide : 54 + 0 ≤ _)⟩)
    dsimp only [Pt.U, Pt.locs, Pt.cells, Pt.slots] at X34 l34 y34 z34 st34 hQ34
    subst l34 y34 z34
    obtain ⟨rfl, N34q, eh34⟩ := hQ34
    have N34 := Fr.app N33 N34q
    refine own_go (fun _ k => st34.trans k) ?_
    refine own_go (A := oW p e below T34 (oF_law m 96 (oi p0) (oi 6) (oi 0) (oi 0) (oR so) (oi 0) [(.int 1)])) (fun t k => by
      refine XS.bipush X34.here hx rfl (hb hby at_46) ?_
      show oW p e below T34 (oF_law m 48 (oi p0) (oi 6) (oi 0) (oi 0) (oR so) .unset [(.int 67), (.int (own_ch (116 : Int32)))]) _
      refine XS.icmpYes X34.here hx rfl (pc0 := 48) (pc' := 77) rfl (hb hby at_48) rfl (feq (by decide : ¬ ((own_ch (116 : Int32)) = (67 : Int32)))).2 (by decide) (by decide) ?_
      show oW p e below T34 (oF_law m 77 (oi p0) (oi 6) (oi 0) (oi 0) (oR so) .unset []) _
      refine XS.iconst X34.here hx rfl (hb hby at_77) ?_
      show oW p e below T34 (oF_law m 78 (oi p0) (oi 6) (oi 0) (oi 0) (oR so) .unset [(.int 0)]) _
      refine XS.istore X34.here hx rfl (hb hby at_78) rfl (l' := #[(oi p0), (oi 6), (oi 0), (oi 0), (oR so), (oi 0)]) rfl ?_
      show oW p e below T34 (oF_law m 80 (oi p0) (oi 6) (oi 0) (oi 0) (oR so) (oi 0) []) _
      refine XS.iloadN X34.here hx rfl (hb hby at_80) rfl ?_
      show oW p e below T34 (oF_law m 81 (oi p0) (oi 6) (oi 0) (oi 0) (oR so) (oi 0) [(.int 0)]) _
      refine XS.iloadN X34.here hx rfl (hb hby at_81) rfl ?_
      show oW p e below T34 (oF_law m 82 (oi p0) (oi 6) (oi 0) (oi 0) (oR so) (oi 0) [(.int 0), (.int 0)]) _
      refine XS.icmpNo X34.here hx rfl (hb hby at_82) rfl (teq (by decide : (0 : Int32) = (0 : Int32))).2 ?_
      show oW p e below T34 (oF_law m 85 (oi p0) (oi 6) (oi 0) (oi 0) (oR so) (oi 0) []) _
      refine XS.iloadN X34.here hx rfl (hb hby at_85) rfl ?_
      show oW p e below T34 (oF_law m 86 (oi p0) (oi 6) (oi 0) (oi 0) (oR so) (oi 0) [(.int 0)]) _
      refine XS.iload X34.here hx rfl (hb hby at_86) rfl ?_
      show oW p e below T34 (oF_law m 88 (oi p0) (oi 6) (oi 0) (oi 0) (oR so) (oi 0) [(.int 0), (.int 0)]) _
      refine XS.icmpNo X34.here hx rfl (hb hby at_88) rfl (teq (by decide : (0 : Int32) = (0 : Int32))).2 ?_
      show oW p e below T34 (oF_law m 91 (oi p0) (oi 6) (oi 0) (oi 0) (oR so) (oi 0) []) _
      refine XS.iconst X34.here hx rfl (hb hby at_91) ?_
      show oW p e below T34 (oF_law m 92 (oi p0) (oi 6) (oi 0) (oi 0) (oR so) (oi 0) [(.int 1)]) _
      refine XS.goto X34.here hx rfl (pc0 := 92) (pc' := 96) rfl (hb hby at_92) (by decide) (by decide) ?_
      exact k) ?_
    obtain ⟨fs, hr, hrun, hended, hRW⟩ := X34.leaveW Sn32 (by rw [eh34]; exact hk32c) (v := some (.int (nar .boolean (1 : Int32)))) (fun h => by rw [Bd.returns] at h; cases h)
    refine ⟨_, _, retN X34 hx (t := .boolean) Bd.returns (by simp) (hb hby at_96) hr, hPf _ _ ⟨hrun, hended, _, _, rfl, ?_, hRW.1, hRW.2.1, hRW.2.2.1, hRW.2.2.2.mono (by decide) (by decide)⟩⟩
    show own_Q_law Z p0 tn ktn s0n s1n s2n s3n s4n s5n cz fm dg cld s0b cl0n s1b cl1n s2b cl2n s3b cl3n s4b cl4n s5b cl5n h0 n0 _ T34.heap _
    rw [eh34]
    exact ⟨rfl, N34⟩
  · subst c7
    refine own_go (A := oW p e below s₁ (oF_law m 6 (oi p0) (oi 7) .unset .unset .unset .unset [(.int 7)])) (fun t k => by
      refine XS.iloadN X0.here hx rfl (hb hby at_5) rfl ?_
      exact k) ?_
    obtain ⟨_, _, ⟨T35, L35, k35, n35⟩, -, X35, ⟨Lc35, hQ35, l35, y35, z35⟩, st35⟩ := Jvm.LawKit.callS X0 hx (y := (⟨"com/example/feeder/feeder/adapters/FrameFormat", "isConfiguration", "(I)Z"⟩ : MethodName)) hown (mvT hZ ow0) (mvT hZ ow1) (mvT hZ ow2) (mvT hZ ow3) (by decide) (backOf (W := 0) (own_rm_isC7 l Z a0 hw []  h0 n0 Z0 ) hZ ow3 ow2 (by decide) (by decide)) (g := (oF_law m 6 (oi p0) (oi 7) .unset .unset .unset .unset [(.int 7)])) rfl (by rw [hml]; rfl) (argsL := [(.int 7)]) (rest := []) (lenOf own_pd_28I29Z rfl) rfl (by show 2 * 0 + _ ≤ _; exact Nat.le_of_eq rfl) (hb hby at_6) (fun _ _ => ⟨rfl, e0, (by decide : 0 + 0 ≤ _), (by decide : 0 + 0 ≤ _)⟩)
    dsimp only [Pt.U, Pt.locs, Pt.cells, Pt.slots] at X35 l35 y35 z35 st35 hQ35
    subst l35 y35 z35
    obtain ⟨rfl, N35q, eh35⟩ := hQ35
    have N35 := Fr.app N0 N35q
    refine own_go st35 ?_
    refine own_go (A := oW p e below T35 (oF_law m 26 (oi p0) (oi 7) (oi 0) (oi 0) .unset .unset [(.int 7)])) (fun t k => by
      refine XS.istoreN X35.here hx rfl (hb hby at_9) rfl (l' := #[(oi p0), (oi 7), (oi 0), .unset, .unset, .unset]) rfl ?_
      show oW p e below T35 (oF_law m 10 (oi p0) (oi 7) (oi 0) .unset .unset .unset []) _
      refine XS.bipush X35.here hx rfl (hb hby at_10) ?_
      show oW p e below T35 (oF_law m 12 (oi p0) (oi 7) (oi 0) .unset .unset .unset [(.int 44)]) _
      refine XS.iloadN X35.here hx rfl (hb hby at_12) rfl ?_
      show oW p e below T35 (oF_law m 13 (oi p0) (oi 7) (oi 0) .unset .unset .unset [(.int 7), (.int 44)]) _
      refine XS.ishr X35.here hx rfl (hb hby at_13) rfl ?_
      show oW p e below T35 (oF_law m 14 (oi p0) (oi 7) (oi 0) .unset .unset .unset [(.int 0)]) _
      refine XS.iconst X35.here hx rfl (hb hby at_14) ?_
      show oW p e below T35 (oF_law m 15 (oi p0) (oi 7) (oi 0) .unset .unset .unset [(.int 1), (.int 0)]) _
      refine XS.iand X35.here hx rfl (hb hby at_15) rfl ?_
      show oW p e below T35 (oF_law m 16 (oi p0) (oi 7) (oi 0) .unset .unset .unset [(.int 0)]) _
      refine XS.ifYes X35.here hx rfl (pc0 := 16) (pc' := 23) rfl (hb hby at_16) rfl ((if0 _ _).trans (teq (by decide : (0 : Int32) = (0 : Int32))).1) (by decide) (by decide) ?_
      show oW p e below T35 (oF_law m 23 (oi p0) (oi 7) (oi 0) .unset .unset .unset []) _
      refine XS.iconst X35.here hx rfl (hb hby at_23) ?_
      show oW p e below T35 (oF_law m 24 (oi p0) (oi 7) (oi 0) .unset .unset .unset [(.int 0)]) _
      refine XS.istoreN X35.here hx rfl (hb hby at_24) rfl (l' := #[(oi p0), (oi 7), (oi 0), (oi 0), .unset, .unset]) rfl ?_
      show oW p e below T35 (oF_law m 25 (oi p0) (oi 7) (oi 0) (oi 0) .unset .unset []) _
      refine XS.iloadN X35.here hx rfl (hb hby at_25) rfl ?_
      exact k) ?_
    obtain ⟨_, _, ⟨T36, L36, k36, n36⟩, -, X36q, Sn36q, gr36, ⟨Lc36, hQ36, l36, y36, z36⟩, st36⟩ := callSS X35 hx (y := (⟨"com/example/feeder/feeder/adapters/FrameFormat", "typeName", "(I)Ljava/lang/String;"⟩ : MethodName)) hown (mvT hZ ow4) (mvT hZ ow5) (mvT hZ ow2) (mvT hZ ow6) (by decide) (own_backCH (W := 0) (own_rm_tyN7 l Z a0 hw [] tn ktn s0n s1n s2n s3n s4n s5n cz fm dg cld h0 n0 Z0 St0 Vt0 Sc0 hcz Sf0 hfm Sd0 Td0) hZ ow6 ow2 (by decide) (by decide) (own_EW hw) H0c) (g := (oF_law m 26 (oi p0) (oi 7) (oi 0) (oi 0) .unset .unset [(.int 7)])) rfl (by rw [hml]; rfl) (argsL := [(.int 7)]) (rest := []) (lenOf own_pd_28I29Ljava2flang2fString3b rfl) rfl (by show 2 * 0 + _ ≤ _; exact Nat.le_of_eq rfl) (hb hby at_26) (fun _ _ => ⟨rfl, eh35, (by decide : 0 + 6 ≤ _), (by decide : 0 + 54 ≤ _)⟩)
    dsimp only [Pt.U, Pt.locs, Pt.cells, Pt.slots] at X36q l36 y36 z36 st36 hQ36
    subst l36 y36 z36
    dsimp only [Pt.U] at Sn36q gr36
    obtain ⟨X36, Sn36, hZ36, hown36⟩ := rebS Sn0 (by rw [eh35]; exact hk0) X36q Sn36q gr36 hZ hown
    obtain ⟨so, nb, kn, rfl, N36q, p36_0, p36_1, p36_2, p36_3, p36_4, p36_5⟩ := hQ36
    have N36 := Fr.app N35 N36q
    have Z36 : n0 ≤ T36.heap.size := Nat.le_trans Z0 (by have q := gr36; rw [eh35] at q; exact q)
    refine own_go (fun _ k => st36.trans k) ?_
    have hk36c : T36.heap.size ≤ T36.heap.size := Nat.le_refl _
    refine own_go (A := oW p e below T36 (oF_law m 33 (oi p0) (oi 7) (oi 0) (oi 0) (oR so) .unset [(.ref so)])) (fun t k => by
      refine XS.astore X36.here hx rfl (hb hby at_29) rfl rfl (l' := #[(oi p0), (oi 7), (oi 0), (oi 0), (oR so), .unset]) rfl ?_
      show oW p e below T36 (oF_law m 31 (oi p0) (oi 7) (oi 0) (oi 0) (oR so) .unset []) _
      refine XS.aload X36.here hx rfl (hb hby at_31) rfl rfl ?_
      exact k) ?_
    obtain ⟨cq37, kq37, q37a, q37b, q37c⟩ := isOf hZ36 rfl p36_0
    obtain ⟨_, _, ⟨T37, L37, k37, n37⟩, -, X37, ⟨Lc37, hQ37, l37, y37, z37⟩, st37⟩ := X36.virtualBack hx (y := (⟨"java/lang/String", "length", "()I"⟩ : MethodName)) (z := (⟨"java/lang/String", "length", "()I"⟩ : MethodName)) hown36 (mvT hZ36 ow9) (mvT hZ36 ow10) (notFace_of_selects (args := #[]) (mvT hZ36 ow12)) (mvT hZ36 ow12) (mvT hZ36 ow11) (by decide) (backOf (W := 0) (own_rm_len6 l Z a0 hw [] so cz nb kn (116 : Int32) (121 : Int32) (112 : Int32) (101 : Int32) (32 : Int32) (nar .byte (atv cld (7 : Int32))) T36.heap n0 Z36 p36_4 hcz p36_0 p36_1 p36_2 p36_3) hZ36 ow14 ow13 (by decide) (by decide)) q37a q37c (g := (oF_law m 33 (oi p0) (oi 7) (oi 0) (oi 0) (oR so) .unset [(.ref so)])) rfl (by rw [hml]; rfl) (Steps.refl _) (argsL := []) (rest := []) (lenOf own_pd_2829I rfl) rfl (by show 2 * 0 + _ ≤ _; exact Nat.le_of_eq rfl) (hb hby at_33) (fun _ _ => ⟨rfl, rfl, (by decide : 6 + 0 ≤ _), (by decide : 54 + 0 ≤ _)⟩)
    dsimp only [Pt.U, Pt.locs, Pt.cells, Pt.slots] at X37 l37 y37 z37 st37 hQ37
    subst l37 y37 z37
    obtain ⟨rfl, N37q, eh37⟩ := hQ37
    have N37 := Fr.app N36 N37q
    refine own_go (fun _ k => st37.trans k) ?_
    refine own_go (A := oW p e below T37 (oF_law m 43 (oi p0) (oi 7) (oi 0) (oi 0) (oR so) .unset [(.int 0), (.ref so)])) (fun t k => by
      refine XS.iconst X37.here hx rfl (hb hby at_36) ?_
      show oW p e below T37 (oF_law m 37 (oi p0) (oi 7) (oi 0) (oi 0) (oR so) .unset [(.int 3), (.int 6)]) _
      refine XS.icmpNo X37.here hx rfl (hb hby at_37) rfl (flt (by decide : ¬ ((6 : Int32) < (3 : Int32)))).1 ?_
      show oW p e below T37 (oF_law m 40 (oi p0) (oi 7) (oi 0) (oi 0) (oR so) .unset []) _
      refine XS.aload X37.here hx rfl (hb hby at_40) rfl rfl ?_
      show oW p e below T37 (oF_law m 42 (oi p0) (oi 7) (oi 0) (oi 0) (oR so) .unset [(.ref so)]) _
      refine XS.iconst X37.here hx rfl (hb hby at_42) ?_
      exact k) ?_
    obtain ⟨cq38, kq38, q38a, q38b, q38c⟩ := isOf hZ36 eh37 p36_0
    obtain ⟨_, _, ⟨T38, L38, k38, n38⟩, -, X38, ⟨Lc38, hQ38, l38, y38, z38⟩, st38⟩ := X37.virtualBack hx (y := (⟨"java/lang/String", "charAt", "(I)C"⟩ : MethodName)) (z := (⟨"java/lang/String", "charAt", "(I)C"⟩ : MethodName)) hown36 (mvT hZ36 ow25) (mvT hZ36 ow26) (notFace_of_selects (args := #[]) (mvT hZ36 ow28)) (mvT hZ36 ow28) (mvT hZ36 ow27) (by decide) (backOf (W := 0) (own_rm_chA6 l Z a0 hw [] so cz fm nb kn (116 : Int32) (121 : Int32) (112 : Int32) (101 : Int32) (32 : Int32) (nar .byte (atv cld (7 : Int32))) T36.heap n0 Z36 p36_4 hcz p36_5 hfm p36_0 p36_1 p36_2 p36_3) hZ36 ow29 ow13 (by decide) (by decide)) q38a q38c (g := (oF_law m 43 (oi p0) (oi 7) (oi 0) (oi 0) (oR so) .unset [(.int 0), (.ref so)])) rfl (by rw [hml]; rfl) (Steps.refl _) (argsL := [(.int 0)]) (rest := []) (lenOf own_pd_28I29C rfl) rfl (by show 2 * 0 + _ ≤ _; exact Nat.le_of_eq rfl) (hb hby at_43) (fun _ _ => ⟨rfl, eh37, (by decide : 6 + 0 ≤ _), (by decide : 54 + 0 ≤ _)⟩)
    dsimp only [Pt.U, Pt.locs, Pt.cells, Pt.slots] at X38 l38 y38 z38 st38 hQ38
    subst l38 y38 z38
    obtain ⟨rfl, N38q, eh38⟩ := hQ38
    have N38 := Fr.app N37 N38q
    refine own_go (fun _ k => st38.trans k) ?_
    refine own_go (A := oW p e below T38 (oF_law m 96 (oi p0) (oi 7) (oi 0) (oi 0) (oR so) (oi 0) [(.int 1)])) (fun t k => by
      refine XS.bipush X38.here hx rfl (hb hby at_46) ?_
      show oW p e below T38 (oF_law m 48 (oi p0) (oi 7) (oi 0) (oi 0) (oR so) .unset [(.int 67), (.int (own_ch (116 : Int32)))]) _
      refine XS.icmpYes X38.here hx rfl (pc0 := 48) (pc' := 77) rfl (hb hby at_48) rfl (feq (by decide : ¬ ((own_ch (116 : Int32)) = (67 : Int32)))).2 (by decide) (by decide) ?_
      show oW p e below T38 (oF_law m 77 (oi p0) (oi 7) (oi 0) (oi 0) (oR so) .unset []) _
      refine XS.iconst X38.here hx rfl (hb hby at_77) ?_
      show oW p e below T38 (oF_law m 78 (oi p0) (oi 7) (oi 0) (oi 0) (oR so) .unset [(.int 0)]) _
      refine XS.istore X38.here hx rfl (hb hby at_78) rfl (l' := #[(oi p0), (oi 7), (oi 0), (oi 0), (oR so), (oi 0)]) rfl ?_
      show oW p e below T38 (oF_law m 80 (oi p0) (oi 7) (oi 0) (oi 0) (oR so) (oi 0) []) _
      refine XS.iloadN X38.here hx rfl (hb hby at_80) rfl ?_
      show oW p e below T38 (oF_law m 81 (oi p0) (oi 7) (oi 0) (oi 0) (oR so) (oi 0) [(.int 0)]) _
      refine XS.iloadN X38.here hx rfl (hb hby at_81) rfl ?_
      show oW p e below T38 (oF_law m 82 (oi p0) (oi 7) (oi 0) (oi 0) (oR so) (oi 0) [(.int 0), (.int 0)]) _
      refine XS.icmpNo X38.here hx rfl (hb hby at_82) rfl (teq (by decide : (0 : Int32) = (0 : Int32))).2 ?_
      show oW p e below T38 (oF_law m 85 (oi p0) (oi 7) (oi 0) (oi 0) (oR so) (oi 0) []) _
      refine XS.iloadN X38.here hx rfl (hb hby at_85) rfl ?_
      show oW p e below T38 (oF_law m 86 (oi p0) (oi 7) (oi 0) (oi 0) (oR so) (oi 0) [(.int 0)]) _
      refine XS.iload X38.here hx rfl (hb hby at_86) rfl ?_
      show oW p e below T38 (oF_law m 88 (oi p0) (oi 7) (oi 0) (oi 0) (oR so) (oi 0) [(.int 0), (.int 0)]) _
      refine XS.icmpNo X38.here hx rfl (hb hby at_88) rfl (teq (by decide : (0 : Int32) = (0 : Int32))).2 ?_
      show oW p e below T38 (oF_law m 91 (oi p0) (oi 7) (oi 0) (oi 0) (oR so) (oi 0) []) _
      refine XS.iconst X38.here hx rfl (hb hby at_91) ?_
      show oW p e below T38 (oF_law m 92 (oi p0) (oi 7) (oi 0) (oi 0) (oR so) (oi 0) [(.int 1)]) _
      refine XS.goto X38.here hx rfl (pc0 := 92) (pc' := 96) rfl (hb hby at_92) (by decide) (by decide) ?_
      exact k) ?_
    obtain ⟨fs, hr, hrun, hended, hRW⟩ := X38.leaveW Sn36 (by rw [eh38]; exact hk36c) (v := some (.int (nar .boolean (1 : Int32)))) (fun h => by rw [Bd.returns] at h; cases h)
    refine ⟨_, _, retN X38 hx (t := .boolean) Bd.returns (by simp) (hb hby at_96) hr, hPf _ _ ⟨hrun, hended, _, _, rfl, ?_, hRW.1, hRW.2.1, hRW.2.2.1, hRW.2.2.2.mono (by decide) (by decide)⟩⟩
    show own_Q_law Z p0 tn ktn s0n s1n s2n s3n s4n s5n cz fm dg cld s0b cl0n s1b cl1n s2b cl2n s3b cl3n s4b cl4n s5b cl5n h0 n0 _ T38.heap _
    rw [eh38]
    exact ⟨rfl, N38⟩
theorem own_fold {args : Array Value} {s : State} {r : Jvm.Cond} : ∀ (L : List Jvm.Cond), (L.foldr Jvm.Cond.and r).before args s = true → ∀ d ∈ L, d.before args s = true
  | [], _, d, hd => nomatch hd
  | c :: L, h, d, hd => by
    rw [List.foldr_cons, Cond.before_and, Bool.and_eq_true] at h
    rcases List.mem_cons.mp hd with rfl | q
    · exact h.1
    · exact own_fold L h.2 d q
theorem own_arrX {args a0 : Array Value} {s : State} {t : Term} {n : Int32} (hx : (Cond.exactly t "[B").before args s = true) (hl : (Term.length t).eval args s none [] s = some (.int n)) (wa : (Cond.arrayClass .byte).before a0 s = true) : ∃ (d : Addr) (D : Cell), t.eval args s none [] s = some (.ref d) ∧ Arr s s.heap d D .byte ∧ s.arrayAt? d = some D := by
  obtain ⟨d, cB, D, kB, hev, hfcB, hcellD, hkB, hstatD, hclsD, -⟩ := Cond.exactly_spec hx
  obtain ⟨d', D', hev', harrAt, hlen⟩ := Term.length_spec hl
  cases hev.symm.trans hev'
  obtain ⟨hcellD', hknD, -, -⟩ := State.arrayAt?_spec harrAt
  cases hcellD.symm.trans hcellD'
  obtain ⟨cB', kB', comp, hnameB, hkB', hkindB⟩ := Cond.arrayClass_spec wa
  have eBA : ("[" ++ FieldType.toString .byte) = "[B" := by decide
  rw [eBA] at hnameB
  cases hfcB.symm.trans hnameB
  cases hkB.symm.trans hkB'
  exact ⟨d, D, hev, ⟨hcellD, ⟨(fun q h => by rw [h] at hstatD; cases hstatD), kB, (by rw [hclsD]; exact hkB), comp, hkindB⟩, hknD⟩, harrAt⟩
theorem own_tab {args : Array Value} {s : State} (hfit : Fit s) {t : Term} {d : Addr} {D : Cell} {n : Int32} (ev : t.eval args s none [] s = some (.ref d)) (A : Arr s s.heap d D .byte) (hl : (Term.length t).eval args s none [] s = some (.int n)) (hn : ¬ n < 0) : Tab s s.heap d D .byte n := by
  have hat' : s.arrayAt? d = some D := Arr.fin (State.Warmed39.refl s).alike A
  have h31 := SBG.length_lt ev hat' hl
  have esz : D.slots.size.toInt32 = n := Value.int.inj (Option.some.inj ((len_f ev hat' h31).symm.trans hl))
  exact Tab.start hfit A (by simp) h31 esz hn
set_option maxRecDepth 65536 in
set_option maxHeartbeats 40000000 in
theorem own_comes {Post : Tables → Env → Array Value → State → Outcome → State → Prop} (hpost : ∀ tb e args s v u, (limb_1_1.after args s (.returned v) u = true ∧ limb_1_2.after args s (.returned v) u = true ∧ True) → ReturnedEndW s (.returned v) u (Jvm.fieldLocs frame_1_writes args s ++ Jvm.arrayLocs frame_1_arrays args s ++ Jvm.staticLocs frame_1_statics s) 24 1152 → Post tb e args s (.returned v) u) :
    ArmFor flags0 classFile x code maxLocals ret World_1 tables_1 room_1 Calls_1 rest_1 Pre_1 Post := by
  intro l hfl _ _ p e ha hc hk s m args below hf hA hF happ hP
  obtain ⟨hcalls, hrest, hpre⟩ := hP
  obtain ⟨-, -, -, hnamed, -, -, -, hat⟩ := (Spec.applies_iff hf).mp happ
  obtain ⟨hg, hn⟩ := and_e (Cond.before_iff.mp (show (Jvm.Cond.and given_1 narrow_1).before args s = true from hpre))
  obtain ⟨hg1a, hg1b⟩ := and_e hg
  obtain ⟨w0, rfl⟩ : ∃ w0 : Value, args = #[w0] := by
    have hs : args.size = 1 := by simpa [Cond.value, given_1] using hg1a
    obtain ⟨L⟩ := args
    match L, hs with
    | [w0], _ => exact ⟨w0, rfl⟩
  have hw := fun d (hd : d ∈ tables_1) => atoms_spec (ws := Jvm.Cond.code x code maxLocals ret :: tables_1) hat d (List.mem_cons_of_mem _ hd)
  have hfit : Fit s := fun {y c} hc i hi => by
    obtain ⟨ha, rfl⟩ := Array.getElem?_eq_some_iff.mp hc
    have q := List.all_eq_true.mp ((Array.all_eq_true_iff_forall_mem.mp hF) _ (Array.getElem_mem ha)) i (List.mem_range.mpr hi)
    simpa [Array.getElem?_eq_getElem hi] using q
  obtain ⟨i0, ei0⟩ := is_v hg1b
  obtain rfl : w0 = (.int i0) := Option.some.inj ei0
  obtain ⟨nn1a, nn1b⟩ := and_e hn
  obtain ⟨nn2a, nn2b⟩ := and_e nn1b
  obtain ⟨nn3a, nn3b⟩ := and_e nn2b
  obtain ⟨nn4a, nn4b⟩ := and_e nn3b
  obtain ⟨nn5a, nn5b⟩ := and_e nn4b
  obtain ⟨nn6a, nn6b⟩ := and_e nn5b
  obtain ⟨nn7a, nn7b⟩ := and_e nn6b
  obtain ⟨nn8a, nn8b⟩ := and_e nn7b
  obtain ⟨nn9a, nn9b⟩ := and_e nn8b
  obtain ⟨nn10a, nn10b⟩ := and_e nn9b
  obtain ⟨nn11a, nn11b⟩ := and_e nn10b
  obtain ⟨nn12a, nn12b⟩ := and_e nn11b
  obtain ⟨nn13a, nn13b⟩ := and_e nn12b
  obtain ⟨nn14a, nn14b⟩ := and_e nn13b
  obtain ⟨nn15a, nn15b⟩ := and_e nn14b
  obtain ⟨nn16a, nn16b⟩ := and_e nn15b
  obtain ⟨nn17a, nn17b⟩ := and_e nn16b
  obtain ⟨nn18a, nn18b⟩ := and_e nn17b
  obtain ⟨nn19a, nn19b⟩ := and_e nn18b
  obtain ⟨nn20a, nn20b⟩ := and_e nn19b
  obtain ⟨nn21a, nn21b⟩ := and_e nn20b
  obtain ⟨nn22a, nn22b⟩ := and_e nn21b
  obtain ⟨nn23a, nn23b⟩ := and_e nn22b
  obtain ⟨nn24a, nn24b⟩ := and_e nn23b
  obtain ⟨nn25a, nn25b⟩ := and_e nn24b
  obtain ⟨nn26a, nn26b⟩ := and_e nn25b
  obtain ⟨nn27a, nn27b⟩ := and_e nn26b
  obtain ⟨nn28a, nn28b⟩ := and_e nn27b
  obtain ⟨nn29a, nn29b⟩ := and_e nn28b
  obtain ⟨nn30a, nn30b⟩ := and_e nn29b
  obtain ⟨nn31a, nn31b⟩ := and_e nn30b
  obtain ⟨nn32a, nn32b⟩ := and_e nn31b
  obtain ⟨nn33a, nn33b⟩ := and_e nn32b
  obtain ⟨nn34a, nn34b⟩ := and_e nn33b
  obtain ⟨nn35a, nn35b⟩ := and_e nn34b
  obtain ⟨nn36a, nn36b⟩ := and_e nn35b
  obtain ⟨nn37a, nn37b⟩ := and_e nn36b
  obtain ⟨nn38a, nn38b⟩ := and_e nn37b
  obtain ⟨nn39a, nn39b⟩ := and_e nn38b
  obtain ⟨nn40a, nn40b⟩ := and_e nn39b
  obtain ⟨nn41a, nn41b⟩ := and_e nn40b
  obtain ⟨nn42a, nn42b⟩ := and_e nn41b
  obtain ⟨nn43a, nn43b⟩ := and_e nn42b
  obtain ⟨nn44a, nn44b⟩ := and_e nn43b
  obtain ⟨nn45a, nn45b⟩ := and_e nn44b
  obtain ⟨nn46a, nn46b⟩ := and_e nn45b
  obtain ⟨nn47a, nn47b⟩ := and_e nn46b
  obtain ⟨nn48a, nn48b⟩ := and_e nn47b
  obtain ⟨nn49a, nn49b⟩ := and_e nn48b
  obtain ⟨nn50a, nn50b⟩ := and_e nn49b
  obtain ⟨nn51a, nn51b⟩ := and_e nn50b
  obtain ⟨nn52a, nn52b⟩ := and_e nn51b
  obtain ⟨nn53a, nn53b⟩ := and_e nn52b
  obtain ⟨nn54a, nn54b⟩ := and_e nn53b
  obtain ⟨nn55a, nn55b⟩ := and_e nn54b
  obtain ⟨nn56a, nn56b⟩ := and_e nn55b
  obtain ⟨nn57a, nn57b⟩ := and_e nn56b
  have hj : ∀ d ∈ jdkStatics_1, d.before _ s = true := own_fold jdkStatics_1 (r := restOwn_1) (by rw [← rest_1_c_eq]; exact hrest)
  obtain ⟨cz, ecz⟩ := is_v (Cond.before_iff.mp (hj _ (List.mem_of_getElem? (i := 1) rfl)))
  have Sc0 : Sta s s.heap "java/lang/String" "COMPACT_STRINGS" "Z" (.int cz) := Sta.start ecz (Or.inl (hj _ (List.mem_of_getElem? (i := 0) rfl)))
  have hcz : ¬ cz = (0 : Int32) := fun q => by
    have h2 := not_v (Cond.before_iff.mp (hj _ (List.mem_of_getElem? (i := 2) rfl)))
    rw [Cond.eq_ints ecz rfl, q] at h2; exact absurd h2 (by decide)
  obtain ⟨fm, efm, hfm⟩ := isR_v (Cond.before_iff.mp (hj _ (List.mem_of_getElem? (i := 8) rfl)))
  have Sf0 : Sta s s.heap "jdk/internal/util/Preconditions" "SIOOBE_FORMATTER" "Ljava/util/function/BiFunction;" fm := Sta.start efm (Or.inl (hj _ (List.mem_of_getElem? (i := 7) rfl)))
  have hdl := Cond.eq_int (hj _ (List.mem_of_getElem? (i := 13) rfl)) rfl
  obtain ⟨dg, cld, edg, Ad, -⟩ := own_arrX (hj _ (List.mem_of_getElem? (i := 12) rfl)) hdl (hw _ (List.mem_of_getElem? (i := 63) rfl))
  have Sd0 : Sta s s.heap "java/lang/Integer" "DigitOnes" "[B" (.ref dg) := Sta.start edg (Or.inl (hj _ (List.mem_of_getElem? (i := 11) rfl)))
  have Td0 := own_tab hfit edg Ad hdl (by decide)
  have HC : CHv s consts_1 s.vm s.heap := CHv.start (own_EW hw) (fun p hp => hcalls.1 p hp) (hj _ (List.mem_of_getElem? (i := 2) rfl)) (hw _ (List.mem_of_getElem? (i := 63) rfl)) (hw _ (List.mem_of_getElem? (i := 69) rfl))
  obtain ⟨tn, etn⟩ := arr_v nn1a
  obtain ⟨clt, At⟩ := Arr.start etn nn1a
  have St0 : Sta s s.heap "com/example/feeder/feeder/adapters/FrameFormat" "TYPE_NAMES" "[Ljava/lang/String;" (.ref tn) := Sta.start etn (Or.inr ⟨(hw _ (List.mem_of_getElem? (i := 2) rfl)), (hw _ (List.mem_of_getElem? (i := 8) rfl))⟩)
  have htl := Cond.eq_int (Cond.before_iff.mpr nn2a) rfl
  have hat' : s.arrayAt? tn = some clt := Arr.fin (State.Warmed39.refl s).alike At
  have h31 := SBG.length_lt etn hat' htl
  have esz : clt.slots.size.toInt32 = 6 := Value.int.inj (Option.some.inj ((len_f etn hat' h31).symm.trans htl))
  obtain ⟨s0n, es0n⟩ := exa_v nn3a
  have sl0n := (elem_in es0n etn rfl At.1).2
  have xe0e : Exa s s.heap s0n "java/lang/String" := Exa.start es0n nn3a
  have xe0c : Fld s s.heap s0n "java/lang/String" "coder" "B" (.int 0) := Fld.start ((fld_at es0n).symm.trans (Cond.eq_int (Cond.before_iff.mpr nn6a) rfl))
  obtain ⟨s0b, ev0n⟩ := arr_v nn4a
  have xe0v : Fld s s.heap s0n "java/lang/String" "value" "[B" (.ref s0b) := Fld.start ((fld_at es0n).symm.trans ev0n)
  obtain ⟨cl0n, Av0n⟩ := Arr.start ev0n nn4a
  have xe0t : Tab s s.heap s0b cl0n .byte (4 : Int32) := own_tab hfit ev0n Av0n (Cond.eq_int (Cond.before_iff.mpr nn5a) rfl) (by decide)
  have xb00n : atv cl0n (0 : Int32) = (68 : Int32) := atv_of (elem_in (Cond.eq_int (Cond.before_iff.mpr nn7a) rfl) ev0n rfl Av0n.1).2
  have xb01n : atv cl0n (1 : Int32) = (65 : Int32) := atv_of (elem_in (Cond.eq_int (Cond.before_iff.mpr nn28a) rfl) ev0n rfl Av0n.1).2
  have xb02n : atv cl0n (2 : Int32) = (84 : Int32) := atv_of (elem_in (Cond.eq_int (Cond.before_iff.mpr nn29a) rfl) ev0n rfl Av0n.1).2
  obtain ⟨s1n, es1n⟩ := exa_v nn16a
  have sl1n := (elem_in es1n etn rfl At.1).2
  have xe1e : Exa s s.heap s1n "java/lang/String" := Exa.start es1n nn16a
  have xe1c : Fld s s.heap s1n "java/lang/String" "coder" "B" (.int 0) := Fld.start ((fld_at es1n).symm.trans (Cond.eq_int (Cond.before_iff.mpr nn19a) rfl))
  obtain ⟨s1b, ev1n⟩ := arr_v nn17a
  have xe1v : Fld s s.heap s1n "java/lang/String" "value" "[B" (.ref s1b) := Fld.start ((fld_at es1n).symm.trans ev1n)
  obtain ⟨cl1n, Av1n⟩ := Arr.start ev1n nn17a
  have xe1t : Tab s s.heap s1b cl1n .byte (6 : Int32) := own_tab hfit ev1n Av1n (Cond.eq_int (Cond.before_iff.mpr nn18a) rfl) (by decide)
  have xb10n : atv cl1n (0 : Int32) = (104 : Int32) := atv_of (elem_in (Cond.eq_int (Cond.before_iff.mpr nn41a) rfl) ev1n rfl Av1n.1).2
  have xb11n : atv cl1n (1 : Int32) = (101 : Int32) := atv_of (elem_in (Cond.eq_int (Cond.before_iff.mpr nn42a) rfl) ev1n rfl Av1n.1).2
  have xb12n : atv cl1n (2 : Int32) = (97 : Int32) := atv_of (elem_in (Cond.eq_int (Cond.before_iff.mpr nn43a) rfl) ev1n rfl Av1n.1).2
  obtain ⟨s2n, es2n⟩ := exa_v nn12a
  have sl2n := (elem_in es2n etn rfl At.1).2
  have xe2e : Exa s s.heap s2n "java/lang/String" := Exa.start es2n nn12a
  have xe2c : Fld s s.heap s2n "java/lang/String" "coder" "B" (.int 0) := Fld.start ((fld_at es2n).symm.trans (Cond.eq_int (Cond.before_iff.mpr nn15a) rfl))
  obtain ⟨s2b, ev2n⟩ := arr_v nn13a
  have xe2v : Fld s s.heap s2n "java/lang/String" "value" "[B" (.ref s2b) := Fld.start ((fld_at es2n).symm.trans ev2n)
  obtain ⟨cl2n, Av2n⟩ := Arr.start ev2n nn13a
  have xe2t : Tab s s.heap s2b cl2n .byte (5 : Int32) := own_tab hfit ev2n Av2n (Cond.eq_int (Cond.before_iff.mpr nn14a) rfl) (by decide)
  have xb20n : atv cl2n (0 : Int32) = (67 : Int32) := atv_of (elem_in (Cond.eq_int (Cond.before_iff.mpr nn36a) rfl) ev2n rfl Av2n.1).2
  have xb21n : atv cl2n (1 : Int32) = (70 : Int32) := atv_of (elem_in (Cond.eq_int (Cond.before_iff.mpr nn37a) rfl) ev2n rfl Av2n.1).2
  have xb22n : atv cl2n (2 : Int32) = (71 : Int32) := atv_of (elem_in (Cond.eq_int (Cond.before_iff.mpr nn38a) rfl) ev2n rfl Av2n.1).2
  obtain ⟨s3n, es3n⟩ := exa_v nn8a
  have sl3n := (elem_in es3n etn rfl At.1).2
  have xe3e : Exa s s.heap s3n "java/lang/String" := Exa.start es3n nn8a
  have xe3c : Fld s s.heap s3n "java/lang/String" "coder" "B" (.int 0) := Fld.start ((fld_at es3n).symm.trans (Cond.eq_int (Cond.before_iff.mpr nn11a) rfl))
  obtain ⟨s3b, ev3n⟩ := arr_v nn9a
  have xe3v : Fld s s.heap s3n "java/lang/String" "value" "[B" (.ref s3b) := Fld.start ((fld_at es3n).symm.trans ev3n)
  obtain ⟨cl3n, Av3n⟩ := Arr.start ev3n nn9a
  have xe3t : Tab s s.heap s3b cl3n .byte (5 : Int32) := own_tab hfit ev3n Av3n (Cond.eq_int (Cond.before_iff.mpr nn10a) rfl) (by decide)
  have xb30n : atv cl3n (0 : Int32) = (67 : Int32) := atv_of (elem_in (Cond.eq_int (Cond.before_iff.mpr nn31a) rfl) ev3n rfl Av3n.1).2
  have xb31n : atv cl3n (1 : Int32) = (70 : Int32) := atv_of (elem_in (Cond.eq_int (Cond.before_iff.mpr nn32a) rfl) ev3n rfl Av3n.1).2
  have xb32n : atv cl3n (2 : Int32) = (71 : Int32) := atv_of (elem_in (Cond.eq_int (Cond.before_iff.mpr nn33a) rfl) ev3n rfl Av3n.1).2
  obtain ⟨s4n, es4n⟩ := exa_v nn20a
  have sl4n := (elem_in es4n etn rfl At.1).2
  have xe4e : Exa s s.heap s4n "java/lang/String" := Exa.start es4n nn20a
  have xe4c : Fld s s.heap s4n "java/lang/String" "coder" "B" (.int 0) := Fld.start ((fld_at es4n).symm.trans (Cond.eq_int (Cond.before_iff.mpr nn23a) rfl))
  obtain ⟨s4b, ev4n⟩ := arr_v nn21a
  have xe4v : Fld s s.heap s4n "java/lang/String" "value" "[B" (.ref s4b) := Fld.start ((fld_at es4n).symm.trans ev4n)
  obtain ⟨cl4n, Av4n⟩ := Arr.start ev4n nn21a
  have xe4t : Tab s s.heap s4b cl4n .byte (7 : Int32) := own_tab hfit ev4n Av4n (Cond.eq_int (Cond.before_iff.mpr nn22a) rfl) (by decide)
  have xb40n : atv cl4n (0 : Int32) = (99 : Int32) := atv_of (elem_in (Cond.eq_int (Cond.before_iff.mpr nn47a) rfl) ev4n rfl Av4n.1).2
  have xb41n : atv cl4n (1 : Int32) = (111 : Int32) := atv_of (elem_in (Cond.eq_int (Cond.before_iff.mpr nn48a) rfl) ev4n rfl Av4n.1).2
  have xb42n : atv cl4n (2 : Int32) = (109 : Int32) := atv_of (elem_in (Cond.eq_int (Cond.before_iff.mpr nn49a) rfl) ev4n rfl Av4n.1).2
  obtain ⟨s5n, es5n⟩ := exa_v nn24a
  have sl5n := (elem_in es5n etn rfl At.1).2
  have xe5e : Exa s s.heap s5n "java/lang/String" := Exa.start es5n nn24a
  have xe5c : Fld s s.heap s5n "java/lang/String" "coder" "B" (.int 0) := Fld.start ((fld_at es5n).symm.trans (Cond.eq_int (Cond.before_iff.mpr nn27a) rfl))
  obtain ⟨s5b, ev5n⟩ := arr_v nn25a
  have xe5v : Fld s s.heap s5n "java/lang/String" "value" "[B" (.ref s5b) := Fld.start ((fld_at es5n).symm.trans ev5n)
  obtain ⟨cl5n, Av5n⟩ := Arr.start ev5n nn25a
  have xe5t : Tab s s.heap s5b cl5n .byte (5 : Int32) := own_tab hfit ev5n Av5n (Cond.eq_int (Cond.before_iff.mpr nn26a) rfl) (by decide)
  have xb50n : atv cl5n (0 : Int32) = (67 : Int32) := atv_of (elem_in (Cond.eq_int (Cond.before_iff.mpr nn54a) rfl) ev5n rfl Av5n.1).2
  have xb51n : atv cl5n (1 : Int32) = (70 : Int32) := atv_of (elem_in (Cond.eq_int (Cond.before_iff.mpr nn55a) rfl) ev5n rfl Av5n.1).2
  have xb52n : atv cl5n (2 : Int32) = (71 : Int32) := atv_of (elem_in (Cond.eq_int (Cond.before_iff.mpr nn56a) rfl) ev5n rfl Av5n.1).2
  have Vt0 : Arv s s.heap tn clt.cls (.object "java/lang/String") (6 : Int32) [(.ref s0n), (.ref s1n), (.ref s2n), (.ref s3n), (.ref s4n), (.ref s5n)] .null := Arv.start hfit At h31 esz (by decide) rfl ⟨sl0n, sl1n, sl2n, sl3n, sl4n, sl5n, trivial⟩
  obtain ⟨n, o, h1, h2, h3, _, L, rfl, ⟨rfl, N⟩, hq⟩ := own_rm_law l s _ hw tables_1 i0 tn clt.cls s0n s1n s2n s3n s4n s5n cz fm dg cld s0b cl0n s1b cl1n s2b cl2n s3b cl3n s4b cl4n s5b cl5n s.heap s.heap.size (Nat.le_refl _) St0 Vt0 Sc0 hcz Sf0 hfm Sd0 Td0 xe0e xe0c xe0v xe0t xb00n xb01n xb02n xe1e xe1c xe1v xe1t xb10n xb11n xb12n xe2e xe2c xe2v xe2t xb20n xb21n xb22n xe3e xe3c xe3v xe3t xb30n xb31n xb32n xe4e xe4c xe4v xe4t xb40n xb41n xb42n xe5e xe5c xe5v xe5t xb50n xb51n xb52n p e ha hc hk s m _ below hf ((Spec.applies_iff_loose hf).mp happ).1 ⟨rfl, State.Warmed39.refl s, rfl, HC⟩ trivial
  refine ⟨n, _, h1, h2, h3, hpost _ _ _ _ _ _ ⟨Cond.after_iff.mpr rfl, Cond.after_iff.mpr (eq_i res_at (Term.int_eval (1)) rfl), trivial⟩ ⟨hq.1, hq.2.1, hq.2.2.1, (hq.2.2.2.sift fun y hy => Or.inr (N y hy)).mono (by decide) (by decide)⟩⟩
theorem main_1_1 : Claimed_1_1 := own_comes fun _ _ _ _ _ _ h hF => ⟨h.1, hF⟩
theorem main_1_2 : Claimed_1_2 := own_comes fun _ _ _ _ _ _ h hF => ⟨h.2.1, hF⟩
end Jvm.Pilot.@@N@@
namespace Jvm.Pilot.@@N@@
open Jvm Jvm.ClassFile Sem Op Lib Jvm.Free Jvm.Stand Jvm.Pilot.@@N@@.Jvm.D
/-! MADE BY PROGRAM (witnessworld.py) out of the Statement's table words and the real class files: 26 classes; the members and pool entries that the words name. The judged class is class 1, her method 1. -/
namespace start1
open Jvm.ClassFile
def u (s : String) : CpInfo := .utf8 (stringToUtf16 s)
/-- a pool by its gaps: so many unusable entries, then the entry; so many at the end -/
def gap : Nat → List CpInfo → List CpInfo
  | 0, r => r
  | n + 1, r => .unusable :: gap n r
def poolList (es : List (Nat × CpInfo)) (last : Nat) : List CpInfo := es.foldr (fun e r => gap e.1 (e.2 :: r)) (gap last [])
def pool (es : List (Nat × CpInfo)) (last : Nat) : Array CpInfo := ⟨poolList es last⟩
def fileOf (pool : Array CpInfo) (this : Nat) (attrs : Array Attribute := #[]) (ms : Array MethodInfo := #[]) (fl : Nat := 33) (sup : Nat := 0) (ifs : Array Nat := #[]) (fds : Array FieldInfo := #[]) : ClassFile where
  minorVersion := 0
  majorVersion := 65
  constantPool := pool
  accessFlags := fl
  thisClass := this
  superClass := sup
  interfaces := ifs
  fields := fds
  methods := ms
  attributes := attrs
def plain (name : String) (sup : Option ClassId) : Class where
  name := name
  kind := .ordinary
  loader := none
  accessFlags := 33
  super := sup
  interfaces := #[]
  cf := none
  fields := #[]
  methods := #[]
  instanceTypes := #[]
  staticTypes := #[]
  resolved := #[]
  callSites := []
  init := .initialized
  statics := none
  mirror := none

def pool0 : Array CpInfo := pool [(5, u "<init>"), (0, u "()V"), (1, .class_ 10), (1, u "java/lang/Object")] 113

def k0c0 : Code := { maxStack := 0, maxLocals := 1, code := object_method_1_code, exceptionTable := #[], attributes := #[] }
def k0m0 : Method := { name := "<init>", desc := "()V", sig := { parameters := [], returnType := none }, accessFlags := 1, code := some k0c0 }
/-- java/lang/Object -/
def k0 : Class := { plain "java/lang/Object" none with
  accessFlags := 33
  interfaces := #[]
  cf := some (fileOf pool0 8 #[] #[{ accessFlags := 1, nameIndex := 5, descriptorIndex := 6, attributes := #[] }] 33 0 #[] #[])
  fields := #[]
  methods := #[k0m0]
  instanceTypes := #[]
  staticTypes := #[]
  resolved := Array.replicate 124 none
  statics := none }

def pool1 : Array CpInfo := pool [(2, .class_ 4), (1, u "java/lang/Object"), (0, u "<init>"), (0, u "()V"), (0, .methodref 8 9), (0, .class_ 10), (0, .nameAndType 11 12), (0, u "com/example/feeder/feeder/adapters/FrameFormat"), (0, u "isConfiguration"), (0, u "(I)Z"), (0, .methodref 8 14), (0, .nameAndType 15 16), (0, u "typeName"), (0, u "(I)Ljava/lang/String;"), (0, .methodref 18 19), (0, .class_ 20), (0, .nameAndType 21 22), (0, u "java/lang/String"), (0, u "length"), (0, u "()I"), (0, .methodref 18 24), (0, .nameAndType 25 26), (0, u "charAt"), (0, u "(I)C"), (0, .class_ 28), (0, u "com/example/feeder/feeder/adapters/FrameFormatIsConfigurationPinLaw"), (2, u "law")] 3

def k1m0 : Method := { name := "<init>", desc := "()V", sig := { parameters := [], returnType := none }, accessFlags := 2, code := none }
def k1c1 : Code := { maxStack := 2, maxLocals := 6, code := code, exceptionTable := #[], attributes := #[] }
def k1m1 : Method := { name := "law", desc := "(I)Z", sig := { parameters := [.int], returnType := some .boolean }, accessFlags := 9, code := some k1c1 }
/-- com/example/feeder/feeder/adapters/FrameFormatIsConfigurationPinLaw -/
def k1 : Class := { plain "com/example/feeder/feeder/adapters/FrameFormatIsConfigurationPinLaw" (some 0) with
  accessFlags := 49
  interfaces := #[]
  cf := some (fileOf pool1 27 #[] #[{ accessFlags := 2, nameIndex := 5, descriptorIndex := 6, attributes := #[] }, { accessFlags := 9, nameIndex := 31, descriptorIndex := 12, attributes := #[] }] 49 2 #[] #[])
  fields := #[]
  methods := #[k1m0, k1m1]
  instanceTypes := #[]
  staticTypes := #[]
  resolved := Array.replicate 35 none
  statics := none }

def pool2 : Array CpInfo := pool [(1, .class_ 2), (0, u "com/example/feeder/feeder/adapters/FrameFormat"), (1, .class_ 6), (0, .nameAndType 7 8), (0, u "java/lang/Object"), (0, u "<init>"), (0, u "()V"), (25, .class_ 35), (0, u "java/lang/StringBuilder"), (0, .methodref 34 5), (2, .methodref 34 40), (0, .nameAndType 41 42), (0, u "append"), (0, u "(Ljava/lang/String;)Ljava/lang/StringBuilder;"), (0, .methodref 34 44), (0, .nameAndType 41 45), (0, u "(I)Ljava/lang/StringBuilder;"), (4, .methodref 34 51), (0, .nameAndType 52 53), (0, u "toString"), (0, u "()Ljava/lang/String;"), (0, .fieldref 1 55), (0, .nameAndType 56 57), (0, u "TYPE_NAMES"), (0, u "[Ljava/lang/String;"), (0, .string 59), (0, u "type "), (34, u "HEADER_BYTES"), (0, u "I"), (2, u "MIN_FRAME_BYTES"), (1, u "TYPE_DATA"), (1, u "TYPE_HEADER"), (1, u "TYPE_CFG_1"), (1, u "TYPE_CFG_2"), (1, u "TYPE_COMMAND"), (0, u "TYPE_CFG_3"), (1, u "SYNC_BYTE"), (1, u "BELOW_MINIMUM"), (0, u "Ljava/lang/String;"), (4, u "isConfiguration"), (0, u "(I)Z"), (0, u "typeName"), (0, u "(I)Ljava/lang/String;")] 6

def k2m0 : Method := { name := "<init>", desc := "()V", sig := { parameters := [], returnType := none }, accessFlags := 2, code := none }
def k2c1 : Code := { maxStack := 2, maxLocals := 1, code := prog_3_method_4_code, exceptionTable := #[], attributes := #[] }
def k2m1 : Method := { name := "isConfiguration", desc := "(I)Z", sig := { parameters := [.int], returnType := some .boolean }, accessFlags := 8, code := some k2c1 }
def k2c2 : Code := { maxStack := 2, maxLocals := 1, code := prog_3_method_5_code, exceptionTable := #[], attributes := #[] }
def k2m2 : Method := { name := "typeName", desc := "(I)Ljava/lang/String;", sig := { parameters := [.int], returnType := some (.object "java/lang/String") }, accessFlags := 8, code := some k2c2 }
/-- com/example/feeder/feeder/adapters/FrameFormat -/
def k2 : Class := { plain "com/example/feeder/feeder/adapters/FrameFormat" (some 0) with
  accessFlags := 48
  interfaces := #[]
  cf := some (fileOf pool2 1 #[] #[{ accessFlags := 2, nameIndex := 7, descriptorIndex := 8, attributes := #[] }, { accessFlags := 8, nameIndex := 119, descriptorIndex := 120, attributes := #[] }, { accessFlags := 8, nameIndex := 121, descriptorIndex := 122, attributes := #[] }] 48 4 #[] #[{ accessFlags := 24, nameIndex := 94, descriptorIndex := 95, attributes := #[] }, { accessFlags := 24, nameIndex := 98, descriptorIndex := 95, attributes := #[] }, { accessFlags := 24, nameIndex := 100, descriptorIndex := 95, attributes := #[] }, { accessFlags := 24, nameIndex := 102, descriptorIndex := 95, attributes := #[] }, { accessFlags := 24, nameIndex := 104, descriptorIndex := 95, attributes := #[] }, { accessFlags := 24, nameIndex := 106, descriptorIndex := 95, attributes := #[] }, { accessFlags := 24, nameIndex := 108, descriptorIndex := 95, attributes := #[] }, { accessFlags := 24, nameIndex := 109, descriptorIndex := 95, attributes := #[] }, { accessFlags := 26, nameIndex := 56, descriptorIndex := 57, attributes := #[] }, { accessFlags := 26, nameIndex := 111, descriptorIndex := 95, attributes := #[] }, { accessFlags := 26, nameIndex := 113, descriptorIndex := 114, attributes := #[] }])
  fields := #[{ name := "HEADER_BYTES", type := .int, accessFlags := 24, slot := 0, constantValue := 0 }, { name := "MIN_FRAME_BYTES", type := .int, accessFlags := 24, slot := 1, constantValue := 0 }, { name := "TYPE_DATA", type := .int, accessFlags := 24, slot := 2, constantValue := 0 }, { name := "TYPE_HEADER", type := .int, accessFlags := 24, slot := 3, constantValue := 0 }, { name := "TYPE_CFG_1", type := .int, accessFlags := 24, slot := 4, constantValue := 0 }, { name := "TYPE_CFG_2", type := .int, accessFlags := 24, slot := 5, constantValue := 0 }, { name := "TYPE_COMMAND", type := .int, accessFlags := 24, slot := 6, constantValue := 0 }, { name := "TYPE_CFG_3", type := .int, accessFlags := 24, slot := 7, constantValue := 0 }, { name := "TYPE_NAMES", type := (.array (.object "java/lang/String")), accessFlags := 26, slot := 8, constantValue := 0 }, { name := "SYNC_BYTE", type := .int, accessFlags := 26, slot := 9, constantValue := 0 }, { name := "BELOW_MINIMUM", type := (.object "java/lang/String"), accessFlags := 26, slot := 10, constantValue := 0 }]
  methods := #[k2m0, k2m1, k2m2]
  instanceTypes := #[]
  staticTypes := #[.int, .int, .int, .int, .int, .int, .int, .int, (.array (.object "java/lang/String")), .int, (.object "java/lang/String")]
  resolved := Array.replicate 129 none
  statics := some 0 }

def pool3 : Array CpInfo := pool [(1, .class_ 2), (0, u "java/io/Serializable"), (0, .class_ 4), (0, u "java/lang/Object")] 2

/-- java/io/Serializable -/
def k3 : Class := { plain "java/io/Serializable" (some 0) with
  accessFlags := 1537
  interfaces := #[]
  cf := some (fileOf pool3 1 #[] #[] 1537 3 #[] #[])
  fields := #[]
  methods := #[]
  instanceTypes := #[]
  staticTypes := #[]
  resolved := Array.replicate 7 none
  statics := none }

def pool4 : Array CpInfo := pool [(1, .class_ 2), (0, u "java/lang/Comparable"), (0, .class_ 4), (0, u "java/lang/Object")] 7

/-- java/lang/Comparable -/
def k4 : Class := { plain "java/lang/Comparable" (some 0) with
  accessFlags := 1537
  interfaces := #[]
  cf := some (fileOf pool4 1 #[] #[] 1537 3 #[] #[])
  fields := #[]
  methods := #[]
  instanceTypes := #[]
  staticTypes := #[]
  resolved := Array.replicate 12 none
  statics := none }

def pool5 : Array CpInfo := pool [(2, .class_ 4), (1, u "java/lang/CharSequence"), (42, .class_ 48), (0, u "java/lang/CharSequence$1CodePointIterator"), (10, .class_ 60), (0, u "java/lang/CharSequence$1CharIterator"), (5, .class_ 67), (0, u "java/lang/Object")] 63

/-- java/lang/CharSequence -/
def k5 : Class := { plain "java/lang/CharSequence" (some 0) with
  accessFlags := 1537
  interfaces := #[]
  cf := some (fileOf pool5 2 #[.nestMembers #[47, 59]] #[] 1537 66 #[] #[])
  fields := #[]
  methods := #[]
  instanceTypes := #[]
  staticTypes := #[]
  resolved := Array.replicate 131 none
  statics := none }

def pool6 : Array CpInfo := pool [(1, .class_ 2), (0, u "java/lang/constant/Constable"), (0, .class_ 4), (0, u "java/lang/Object")] 6

/-- java/lang/constant/Constable -/
def k6 : Class := { plain "java/lang/constant/Constable" (some 0) with
  accessFlags := 1537
  interfaces := #[]
  cf := some (fileOf pool6 1 #[] #[] 1537 3 #[] #[])
  fields := #[]
  methods := #[]
  instanceTypes := #[]
  staticTypes := #[]
  resolved := Array.replicate 11 none
  statics := none }

def pool7 : Array CpInfo := pool [(1, .class_ 2), (0, u "java/lang/constant/ConstantDesc"), (0, .class_ 4), (0, u "java/lang/Object")] 32

/-- java/lang/constant/ConstantDesc -/
def k7 : Class := { plain "java/lang/constant/ConstantDesc" (some 0) with
  accessFlags := 1537
  interfaces := #[]
  cf := some (fileOf pool7 1 #[] #[] 1537 3 #[] #[])
  fields := #[]
  methods := #[]
  instanceTypes := #[]
  staticTypes := #[]
  resolved := Array.replicate 37 none
  statics := none }

def pool8 : Array CpInfo := pool [(1, .methodref 2 3), (0, .class_ 4), (0, .nameAndType 5 6), (0, u "java/lang/Object"), (0, u "<init>"), (0, u "()V"), (2, .fieldref 10 11), (0, .class_ 12), (0, .nameAndType 13 14), (0, u "java/lang/String"), (0, u "value"), (0, u "[B"), (0, .fieldref 10 16), (0, .nameAndType 17 18), (0, u "coder"), (0, u "B"), (2, u "hash"), (0, u "I"), (2, u "hashIsZero"), (0, u "Z"), (11, .fieldref 10 39), (0, .nameAndType 40 26), (0, u "COMPACT_STRINGS"), (13, .methodref 55 56), (0, .class_ 57), (0, .nameAndType 58 59), (0, u "java/util/Arrays"), (0, u "copyOfRange"), (0, u "([BII)[B"), (47, .class_ 109), (1, u "java/lang/StringLatin1"), (32, u "()Z"), (50, .class_ 195), (1, u "java/lang/System"), (16, .methodref 193 213), (0, .nameAndType 214 215), (0, u "arraycopy"), (0, u "(Ljava/lang/Object;ILjava/lang/Object;II)V"), (118, u "()I"), (0, .methodref 10 336), (0, .nameAndType 17 337), (0, u "()B"), (2, u "()[B"), (22, u "([BI)C"), (27, u "(II)V"), (35, u "(I)C"), (61, .methodref 10 490), (0, .nameAndType 5 491), (0, u "(Ljava/lang/AbstractStringBuilder;Ljava/lang/Void;)V"), (0, .methodref 10 493), (0, .nameAndType 494 142), (0, u "isLatin1"), (0, .methodref 107 496), (0, .nameAndType 497 363), (0, u "charAt"), (3, u "checkIndex"), (4, .nameAndType 507 334), (0, u "length"), (24, u "getBytes"), (16, .methodref 550 506), (0, .class_ 551), (0, u "java/lang/AbstractStringBuilder"), (0, .methodref 550 553), (0, .nameAndType 554 340), (0, u "getValue"), (20, .class_ 576), (0, u "java/lang/CharSequence"), (22, u "CASE_INSENSITIVE_ORDER"), (0, u "Ljava/util/Comparator;"), (220, u "([BIB)V"), (225, .methodref 550 493), (5, .fieldref 1054 1055), (0, .class_ 1056), (0, .nameAndType 1057 1058), (0, u "jdk/internal/util/Preconditions"), (0, u "SIOOBE_FORMATTER"), (0, u "Ljava/util/function/BiFunction;"), (0, .methodref 1054 1060), (0, .nameAndType 501 1061), (0, u "(IILjava/util/function/BiFunction;)I"), (39, u "serialPersistentFields"), (0, u "[Ljava/io/ObjectStreamField;"), (0, .class_ 1104), (0, u "java/lang/String$CaseInsensitiveComparator"), (1, .class_ 1107), (0, u "java/io/Serializable"), (0, .class_ 1109), (0, u "java/lang/Comparable"), (0, .class_ 1111), (0, u "java/lang/constant/Constable"), (0, .class_ 1113), (0, u "java/lang/constant/ConstantDesc"), (2, u "serialVersionUID"), (0, u "J"), (3, u "REPL"), (0, u "C"), (2, u "LATIN1"), (1, u "UTF16"), (105, u "(Ljava/lang/StringBuilder;)V")] 217

def k8m0 : Method := { name := "<init>", desc := "()V", sig := { parameters := [], returnType := none }, accessFlags := 1, code := none }
def k8c1 : Code := { maxStack := 3, maxLocals := 2, code := jdk_42_method_53_code, exceptionTable := #[], attributes := #[] }
def k8m1 : Method := { name := "<init>", desc := "(Ljava/lang/StringBuilder;)V", sig := { parameters := [(.object "java/lang/StringBuilder")], returnType := none }, accessFlags := 1, code := some k8c1 }
def k8c2 : Code := { maxStack := 2, maxLocals := 1, code := jdk_42_method_54_code, exceptionTable := #[], attributes := #[] }
def k8m2 : Method := { name := "length", desc := "()I", sig := { parameters := [], returnType := some .int }, accessFlags := 1, code := some k8c2 }
def k8c3 : Code := { maxStack := 2, maxLocals := 2, code := jdk_42_method_56_code, exceptionTable := #[], attributes := #[] }
def k8m3 : Method := { name := "charAt", desc := "(I)C", sig := { parameters := [.int], returnType := some .char }, accessFlags := 1, code := some k8c3 }
def k8c4 : Code := { maxStack := 5, maxLocals := 4, code := jdk_42_method_147_code, exceptionTable := #[], attributes := #[] }
def k8m4 : Method := { name := "getBytes", desc := "([BIB)V", sig := { parameters := [(.array .byte), .int, .byte], returnType := none }, accessFlags := 0, code := some k8c4 }
def k8c5 : Code := { maxStack := 5, maxLocals := 5, code := jdk_42_method_150_code, exceptionTable := #[], attributes := #[] }
def k8m5 : Method := { name := "<init>", desc := "(Ljava/lang/AbstractStringBuilder;Ljava/lang/Void;)V", sig := { parameters := [(.object "java/lang/AbstractStringBuilder"), (.object "java/lang/Void")], returnType := none }, accessFlags := 0, code := some k8c5 }
def k8c6 : Code := { maxStack := 1, maxLocals := 1, code := jdk_42_method_152_code, exceptionTable := #[], attributes := #[] }
def k8m6 : Method := { name := "coder", desc := "()B", sig := { parameters := [], returnType := some .byte }, accessFlags := 0, code := some k8c6 }
def k8c7 : Code := { maxStack := 1, maxLocals := 1, code := jdk_42_method_154_code, exceptionTable := #[], attributes := #[] }
def k8m7 : Method := { name := "isLatin1", desc := "()Z", sig := { parameters := [], returnType := some .boolean }, accessFlags := 0, code := some k8c7 }
def k8c8 : Code := { maxStack := 3, maxLocals := 2, code := jdk_42_method_155_code, exceptionTable := #[], attributes := #[] }
def k8m8 : Method := { name := "checkIndex", desc := "(II)V", sig := { parameters := [.int, .int], returnType := none }, accessFlags := 8, code := some k8c8 }
/-- java/lang/String -/
def k8 : Class := { plain "java/lang/String" (some 0) with
  accessFlags := 49
  interfaces := #[3, 4, 5, 6, 7]
  cf := some (fileOf pool8 10 #[.nestMembers #[1103]] #[{ accessFlags := 1, nameIndex := 5, descriptorIndex := 6, attributes := #[] }, { accessFlags := 1, nameIndex := 5, descriptorIndex := 1233, attributes := #[] }, { accessFlags := 1, nameIndex := 507, descriptorIndex := 334, attributes := #[] }, { accessFlags := 1, nameIndex := 497, descriptorIndex := 427, attributes := #[] }, { accessFlags := 0, nameIndex := 532, descriptorIndex := 821, attributes := #[] }, { accessFlags := 0, nameIndex := 5, descriptorIndex := 491, attributes := #[] }, { accessFlags := 0, nameIndex := 17, descriptorIndex := 337, attributes := #[] }, { accessFlags := 0, nameIndex := 494, descriptorIndex := 142, attributes := #[] }, { accessFlags := 8, nameIndex := 501, descriptorIndex := 391, attributes := #[] }] 49 2 #[1106, 1108, 575, 1110, 1112] #[{ accessFlags := 18, nameIndex := 13, descriptorIndex := 14, attributes := #[] }, { accessFlags := 18, nameIndex := 17, descriptorIndex := 18, attributes := #[] }, { accessFlags := 2, nameIndex := 21, descriptorIndex := 22, attributes := #[] }, { accessFlags := 2, nameIndex := 25, descriptorIndex := 26, attributes := #[] }, { accessFlags := 26, nameIndex := 1116, descriptorIndex := 1117, attributes := #[] }, { accessFlags := 24, nameIndex := 40, descriptorIndex := 26, attributes := #[] }, { accessFlags := 26, nameIndex := 1101, descriptorIndex := 1102, attributes := #[] }, { accessFlags := 26, nameIndex := 1121, descriptorIndex := 1122, attributes := #[] }, { accessFlags := 25, nameIndex := 599, descriptorIndex := 600, attributes := #[] }, { accessFlags := 24, nameIndex := 1125, descriptorIndex := 18, attributes := #[] }, { accessFlags := 24, nameIndex := 1127, descriptorIndex := 18, attributes := #[] }])
  fields := #[{ name := "value", type := (.array .byte), accessFlags := 18, slot := 0, constantValue := 0 }, { name := "coder", type := .byte, accessFlags := 18, slot := 1, constantValue := 0 }, { name := "hash", type := .int, accessFlags := 2, slot := 2, constantValue := 0 }, { name := "hashIsZero", type := .boolean, accessFlags := 2, slot := 3, constantValue := 0 }, { name := "serialVersionUID", type := .long, accessFlags := 26, slot := 0, constantValue := 0 }, { name := "COMPACT_STRINGS", type := .boolean, accessFlags := 24, slot := 1, constantValue := 0 }, { name := "serialPersistentFields", type := (.array (.object "java/io/ObjectStreamField")), accessFlags := 26, slot := 2, constantValue := 0 }, { name := "REPL", type := .char, accessFlags := 26, slot := 3, constantValue := 0 }, { name := "CASE_INSENSITIVE_ORDER", type := (.object "java/util/Comparator"), accessFlags := 25, slot := 4, constantValue := 0 }, { name := "LATIN1", type := .byte, accessFlags := 24, slot := 5, constantValue := 0 }, { name := "UTF16", type := .byte, accessFlags := 24, slot := 6, constantValue := 0 }]
  methods := #[k8m0, k8m1, k8m2, k8m3, k8m4, k8m5, k8m6, k8m7, k8m8]
  instanceTypes := #[(.array .byte), .byte, .int, .boolean]
  staticTypes := #[.long, .boolean, (.array (.object "java/io/ObjectStreamField")), .char, (.object "java/util/Comparator"), .byte, .byte]
  resolved := Array.replicate 1451 none
  statics := some 1 }

def pool9 : Array CpInfo := pool [(1, .class_ 2), (0, u "java/lang/String"), (1, .class_ 6), (1, u "java/lang/Object"), (0, u "<init>"), (0, u "()V"), (0, .methodref 1 10), (0, .nameAndType 11 12), (0, u "checkIndex"), (0, u "(II)V"), (1, .class_ 16), (1, u "java/lang/StringLatin1"), (36, u "([BI)C"), (67, u "$assertionsDisabled"), (0, u "Z"), (98, .class_ 223), (1, u "java/lang/StringLatin1$LinesSpliterator"), (28, u "charAt"), (137, .class_ 391), (0, u "java/lang/StringLatin1$CharsSpliterator")] 3

def k9m0 : Method := { name := "<init>", desc := "()V", sig := { parameters := [], returnType := none }, accessFlags := 0, code := none }
def k9c1 : Code := { maxStack := 2, maxLocals := 2, code := jdk_43_method_2_code, exceptionTable := #[], attributes := #[] }
def k9m1 : Method := { name := "charAt", desc := "([BI)C", sig := { parameters := [(.array .byte), .int], returnType := some .char }, accessFlags := 9, code := some k9c1 }
/-- java/lang/StringLatin1 -/
def k9 : Class := { plain "java/lang/StringLatin1" (some 0) with
  accessFlags := 48
  interfaces := #[]
  cf := some (fileOf pool9 14 #[.nestMembers #[390, 221]] #[{ accessFlags := 0, nameIndex := 7, descriptorIndex := 8, attributes := #[] }, { accessFlags := 9, nameIndex := 252, descriptorIndex := 53, attributes := #[] }] 48 4 #[] #[{ accessFlags := 4120, nameIndex := 121, descriptorIndex := 122, attributes := #[] }])
  fields := #[{ name := "$assertionsDisabled", type := .boolean, accessFlags := 4120, slot := 0, constantValue := 0 }]
  methods := #[k9m0, k9m1]
  instanceTypes := #[]
  staticTypes := #[.boolean]
  resolved := Array.replicate 395 none
  statics := none }

def pool10 : Array CpInfo := pool [(2, .class_ 4), (1, u "java/lang/Object"), (0, u "<init>"), (0, u "()V"), (17, .class_ 26), (1, u "jdk/internal/util/Preconditions"), (6, u "checkIndex"), (21, .class_ 56), (0, u "jdk/internal/util/Preconditions$4"), (57, .class_ 115), (0, u "jdk/internal/util/Preconditions$1"), (7, u "SIOOBE_FORMATTER"), (0, u "Ljava/util/function/BiFunction;"), (0, .class_ 126), (0, u "jdk/internal/util/Preconditions$2"), (3, u "AIOOBE_FORMATTER"), (0, .class_ 132), (0, u "jdk/internal/util/Preconditions$3"), (3, u "IOOBE_FORMATTER"), (41, u "(IILjava/util/function/BiFunction;)I")] 15

def k10m0 : Method := { name := "<init>", desc := "()V", sig := { parameters := [], returnType := none }, accessFlags := 1, code := none }
def k10c1 : Code := { maxStack := 3, maxLocals := 3, code := jdk_41_method_11_code, exceptionTable := #[], attributes := #[] }
def k10m1 : Method := { name := "checkIndex", desc := "(IILjava/util/function/BiFunction;)I", sig := { parameters := [.int, .int, (.object "java/util/function/BiFunction")], returnType := some .int }, accessFlags := 9, code := some k10c1 }
/-- jdk/internal/util/Preconditions -/
def k10 : Class := { plain "jdk/internal/util/Preconditions" (some 0) with
  accessFlags := 33
  interfaces := #[]
  cf := some (fileOf pool10 24 #[.nestMembers #[55, 131, 125, 114]] #[{ accessFlags := 1, nameIndex := 5, descriptorIndex := 6, attributes := #[] }, { accessFlags := 9, nameIndex := 33, descriptorIndex := 178, attributes := #[] }] 33 2 #[] #[{ accessFlags := 25, nameIndex := 123, descriptorIndex := 124, attributes := #[] }, { accessFlags := 25, nameIndex := 130, descriptorIndex := 124, attributes := #[] }, { accessFlags := 25, nameIndex := 136, descriptorIndex := 124, attributes := #[] }])
  fields := #[{ name := "SIOOBE_FORMATTER", type := (.object "java/util/function/BiFunction"), accessFlags := 25, slot := 0, constantValue := 0 }, { name := "AIOOBE_FORMATTER", type := (.object "java/util/function/BiFunction"), accessFlags := 25, slot := 1, constantValue := 0 }, { name := "IOOBE_FORMATTER", type := (.object "java/util/function/BiFunction"), accessFlags := 25, slot := 2, constantValue := 0 }]
  methods := #[k10m0, k10m1]
  instanceTypes := #[]
  staticTypes := #[(.object "java/util/function/BiFunction"), (.object "java/util/function/BiFunction"), (.object "java/util/function/BiFunction")]
  resolved := Array.replicate 194 none
  statics := some 2 }

def pool11 : Array CpInfo := pool [(1, .class_ 2), (0, u "java/lang/Appendable"), (0, .class_ 4), (0, u "java/lang/Object")] 9

/-- java/lang/Appendable -/
def k11 : Class := { plain "java/lang/Appendable" (some 0) with
  accessFlags := 1537
  interfaces := #[]
  cf := some (fileOf pool11 1 #[] #[] 1537 3 #[] #[])
  fields := #[]
  methods := #[]
  instanceTypes := #[]
  staticTypes := #[]
  resolved := Array.replicate 14 none
  statics := none }

def pool12 : Array CpInfo := pool [(1, .class_ 2), (0, u "java/lang/String"), (0, .methodref 4 5), (0, .class_ 6), (0, .nameAndType 7 8), (0, u "java/lang/Object"), (0, u "<init>"), (0, u "()V"), (1, .class_ 12), (1, u "java/lang/AbstractStringBuilder"), (0, u "EMPTYVALUE"), (0, u "[B"), (0, .fieldref 10 16), (0, .nameAndType 17 14), (0, u "value"), (0, .fieldref 1 19), (0, .nameAndType 20 21), (0, u "COMPACT_STRINGS"), (0, u "Z"), (0, .fieldref 10 23), (0, .nameAndType 24 25), (0, u "coder"), (0, u "B"), (6, .methodref 1 33), (0, .nameAndType 34 35), (0, u "length"), (0, u "()I"), (0, .class_ 37), (0, u "java/lang/Integer"), (2, .methodref 1 41), (0, .nameAndType 24 42), (0, u "()B"), (2, u "append"), (0, u "(Ljava/lang/String;)Ljava/lang/AbstractStringBuilder;"), (1, .class_ 49), (0, u "java/lang/CharSequence"), (19, u "(Ljava/lang/String;)V"), (5, u "maybeLatin1"), (3, .fieldref 10 80), (0, .nameAndType 81 82), (0, u "count"), (0, u "I"), (0, .methodref 10 84), (0, .nameAndType 85 86), (0, u "isLatin1"), (0, u "()Z"), (13, .methodref 10 101), (0, .nameAndType 102 103), (0, u "ensureCapacityInternal"), (0, u "(I)V"), (3, u "(I)I"), (80, u "getChars"), (19, .methodref 10 209), (0, .nameAndType 210 211), (0, u "putStringAt"), (0, u "(ILjava/lang/String;)V"), (5, u "inflateIfNeededFor"), (2, .nameAndType 221 222), (0, u "getBytes"), (0, u "([BIB)V"), (22, .methodref 36 246), (0, .nameAndType 247 107), (0, u "stringSize"), (0, .methodref 36 249), (0, .nameAndType 188 250), (0, u "(II[B)I"), (146, .methodref 10 398), (0, .nameAndType 217 69), (0, .methodref 1 220), (3, u "()[B"), (40, .class_ 445), (0, u "java/lang/Appendable"), (65, u "(I)Ljava/lang/AbstractStringBuilder;"), (40, u "getValue")] 56

def k12m0 : Method := { name := "<init>", desc := "()V", sig := { parameters := [], returnType := none }, accessFlags := 0, code := none }
def k12c1 : Code := { maxStack := 2, maxLocals := 2, code := jdk_68_method_2_code, exceptionTable := #[], attributes := #[] }
def k12m1 : Method := { name := "<init>", desc := "(I)V", sig := { parameters := [.int], returnType := none }, accessFlags := 0, code := some k12c1 }
def k12c2 : Code := { maxStack := 1, maxLocals := 1, code := jdk_68_method_6_code, exceptionTable := #[], attributes := #[] }
def k12m2 : Method := { name := "length", desc := "()I", sig := { parameters := [], returnType := some .int }, accessFlags := 1, code := some k12c2 }
def k12c3 : Code := { maxStack := 4, maxLocals := 3, code := jdk_68_method_9_code, exceptionTable := #[], attributes := #[] }
def k12m3 : Method := { name := "ensureCapacityInternal", desc := "(I)V", sig := { parameters := [.int], returnType := none }, accessFlags := 2, code := some k12c3 }
def k12c4 : Code := { maxStack := 3, maxLocals := 3, code := jdk_68_method_22_code, exceptionTable := #[], attributes := #[] }
def k12m4 : Method := { name := "append", desc := "(Ljava/lang/String;)Ljava/lang/AbstractStringBuilder;", sig := { parameters := [(.object "java/lang/String")], returnType := some (.object "java/lang/AbstractStringBuilder") }, accessFlags := 1, code := some k12c4 }
def k12c5 : Code := { maxStack := 4, maxLocals := 4, code := jdk_68_method_32_code, exceptionTable := #[], attributes := #[] }
def k12m5 : Method := { name := "append", desc := "(I)Ljava/lang/AbstractStringBuilder;", sig := { parameters := [.int], returnType := some (.object "java/lang/AbstractStringBuilder") }, accessFlags := 1, code := some k12c5 }
def k12c6 : Code := { maxStack := 1, maxLocals := 1, code := jdk_68_method_64_code, exceptionTable := #[], attributes := #[] }
def k12m6 : Method := { name := "getValue", desc := "()[B", sig := { parameters := [], returnType := some (.array .byte) }, accessFlags := 16, code := some k12c6 }
def k12c7 : Code := { maxStack := 1, maxLocals := 1, code := jdk_68_method_68_code, exceptionTable := #[], attributes := #[] }
def k12m7 : Method := { name := "isLatin1", desc := "()Z", sig := { parameters := [], returnType := some .boolean }, accessFlags := 16, code := some k12c7 }
def k12c8 : Code := { maxStack := 2, maxLocals := 2, code := jdk_68_method_71_code, exceptionTable := #[], attributes := #[] }
def k12m8 : Method := { name := "inflateIfNeededFor", desc := "(Ljava/lang/String;)V", sig := { parameters := [(.object "java/lang/String")], returnType := none }, accessFlags := 2, code := some k12c8 }
def k12c9 : Code := { maxStack := 4, maxLocals := 3, code := jdk_68_method_73_code, exceptionTable := #[], attributes := #[] }
def k12m9 : Method := { name := "putStringAt", desc := "(ILjava/lang/String;)V", sig := { parameters := [.int, (.object "java/lang/String")], returnType := none }, accessFlags := 2, code := some k12c9 }
/-- java/lang/AbstractStringBuilder -/
def k12 : Class := { plain "java/lang/AbstractStringBuilder" (some 0) with
  accessFlags := 1056
  interfaces := #[11, 5]
  cf := some (fileOf pool12 10 #[] #[{ accessFlags := 0, nameIndex := 7, descriptorIndex := 8, attributes := #[] }, { accessFlags := 0, nameIndex := 7, descriptorIndex := 103, attributes := #[] }, { accessFlags := 1, nameIndex := 34, descriptorIndex := 35, attributes := #[] }, { accessFlags := 2, nameIndex := 102, descriptorIndex := 103, attributes := #[] }, { accessFlags := 1, nameIndex := 45, descriptorIndex := 46, attributes := #[] }, { accessFlags := 1, nameIndex := 45, descriptorIndex := 511, attributes := #[] }, { accessFlags := 16, nameIndex := 552, descriptorIndex := 403, attributes := #[] }, { accessFlags := 16, nameIndex := 85, descriptorIndex := 86, attributes := #[] }, { accessFlags := 2, nameIndex := 217, descriptorIndex := 69, attributes := #[] }, { accessFlags := 2, nameIndex := 210, descriptorIndex := 211, attributes := #[] }] 1056 4 #[444, 48] #[{ accessFlags := 0, nameIndex := 17, descriptorIndex := 14, attributes := #[] }, { accessFlags := 0, nameIndex := 24, descriptorIndex := 25, attributes := #[] }, { accessFlags := 0, nameIndex := 75, descriptorIndex := 21, attributes := #[] }, { accessFlags := 0, nameIndex := 81, descriptorIndex := 82, attributes := #[] }, { accessFlags := 26, nameIndex := 13, descriptorIndex := 14, attributes := #[] }])
  fields := #[{ name := "value", type := (.array .byte), accessFlags := 0, slot := 0, constantValue := 0 }, { name := "coder", type := .byte, accessFlags := 0, slot := 1, constantValue := 0 }, { name := "maybeLatin1", type := .boolean, accessFlags := 0, slot := 2, constantValue := 0 }, { name := "count", type := .int, accessFlags := 0, slot := 3, constantValue := 0 }, { name := "EMPTYVALUE", type := (.array .byte), accessFlags := 26, slot := 0, constantValue := 0 }]
  methods := #[k12m0, k12m1, k12m2, k12m3, k12m4, k12m5, k12m6, k12m7, k12m8, k12m9]
  instanceTypes := #[(.array .byte), .byte, .boolean, .int]
  staticTypes := #[(.array .byte)]
  resolved := Array.replicate 609 none
  statics := none }

def pool13 : Array CpInfo := pool [(1, .methodref 2 3), (0, .class_ 4), (0, .nameAndType 5 6), (0, u "java/lang/AbstractStringBuilder"), (0, u "<init>"), (0, u "(I)V"), (11, .class_ 20), (1, u "java/lang/String"), (3, .class_ 26), (1, u "java/lang/StringBuilder"), (0, u "append"), (0, u "(Ljava/lang/String;)Ljava/lang/StringBuilder;"), (0, .methodref 2 30), (0, .nameAndType 27 31), (0, u "(Ljava/lang/String;)Ljava/lang/AbstractStringBuilder;"), (21, .methodref 2 54), (0, .nameAndType 27 55), (0, u "(I)Ljava/lang/AbstractStringBuilder;"), (81, .methodref 18 138), (0, .nameAndType 5 139), (0, u "(Ljava/lang/StringBuilder;)V"), (5, u "()V"), (10, u "()I"), (111, u "(I)Ljava/lang/StringBuilder;"), (74, .methodref 2 344), (0, .nameAndType 345 156), (0, u "length"), (3, .class_ 350), (0, u "java/lang/Appendable"), (0, .class_ 352), (0, u "java/io/Serializable"), (0, .class_ 354), (0, u "java/lang/Comparable"), (0, .class_ 356), (0, u "java/lang/CharSequence"), (0, u "serialVersionUID"), (0, u "J"), (40, u "toString"), (0, u "()Ljava/lang/String;")] 21

def k13c0 : Code := { maxStack := 2, maxLocals := 1, code := jdk_67_method_1_code, exceptionTable := #[], attributes := #[] }
def k13m0 : Method := { name := "<init>", desc := "()V", sig := { parameters := [], returnType := none }, accessFlags := 1, code := some k13c0 }
def k13c1 : Code := { maxStack := 2, maxLocals := 2, code := jdk_67_method_7_code, exceptionTable := #[], attributes := #[] }
def k13m1 : Method := { name := "append", desc := "(Ljava/lang/String;)Ljava/lang/StringBuilder;", sig := { parameters := [(.object "java/lang/String")], returnType := some (.object "java/lang/StringBuilder") }, accessFlags := 1, code := some k13c1 }
def k13c2 : Code := { maxStack := 2, maxLocals := 2, code := jdk_67_method_15_code, exceptionTable := #[], attributes := #[] }
def k13m2 : Method := { name := "append", desc := "(I)Ljava/lang/StringBuilder;", sig := { parameters := [.int], returnType := some (.object "java/lang/StringBuilder") }, accessFlags := 1, code := some k13c2 }
def k13c3 : Code := { maxStack := 3, maxLocals := 1, code := jdk_67_method_42_code, exceptionTable := #[], attributes := #[] }
def k13m3 : Method := { name := "toString", desc := "()Ljava/lang/String;", sig := { parameters := [], returnType := some (.object "java/lang/String") }, accessFlags := 1, code := some k13c3 }
def k13c4 : Code := { maxStack := 1, maxLocals := 1, code := jdk_67_method_93_code, exceptionTable := #[], attributes := #[] }
def k13m4 : Method := { name := "length", desc := "()I", sig := { parameters := [], returnType := some .int }, accessFlags := 4161, code := some k13c4 }
/-- java/lang/StringBuilder -/
def k13 : Class := { plain "java/lang/StringBuilder" (some 12) with
  accessFlags := 49
  interfaces := #[11, 3, 4, 5]
  cf := some (fileOf pool13 24 #[] #[{ accessFlags := 1, nameIndex := 5, descriptorIndex := 145, attributes := #[] }, { accessFlags := 1, nameIndex := 27, descriptorIndex := 28, attributes := #[] }, { accessFlags := 1, nameIndex := 27, descriptorIndex := 268, attributes := #[] }, { accessFlags := 1, nameIndex := 399, descriptorIndex := 400, attributes := #[] }, { accessFlags := 4161, nameIndex := 345, descriptorIndex := 156, attributes := #[] }] 49 2 #[349, 351, 353, 355] #[{ accessFlags := 24, nameIndex := 357, descriptorIndex := 358, attributes := #[] }])
  fields := #[{ name := "serialVersionUID", type := .long, accessFlags := 24, slot := 0, constantValue := 0 }]
  methods := #[k13m0, k13m1, k13m2, k13m3, k13m4]
  instanceTypes := #[(.array .byte), .byte, .boolean, .int]
  staticTypes := #[.long]
  resolved := Array.replicate 422 none
  statics := none }

def pool14 : Array CpInfo := pool [(2, .class_ 4), (1, u "java/lang/Object"), (0, u "<init>"), (0, u "()V"), (1, .class_ 10), (1, u "java/lang/System"), (0, u "allowSecurityManager"), (0, u "I"), (16, u "cons"), (0, u "Ljava/io/Console;"), (77, .class_ 110), (1, u "java/lang/System$CallersHolder"), (43, u "initialErrStream"), (0, u "Ljava/io/PrintStream;"), (19, u "security"), (0, u "Ljava/lang/SecurityManager;"), (31, .class_ 209), (0, u "java/lang/System$1"), (7, u "props"), (0, u "Ljava/util/Properties;"), (2, u "lineSeparator"), (0, u "Ljava/lang/String;"), (96, .class_ 321), (1, u "java/lang/System$LoggerFinder"), (5, .class_ 328), (0, u "java/lang/System$Logger"), (67, u "err"), (2, u "out"), (91, u "notSupportedJnuEncoding"), (15, u "in"), (17, u "initialIn"), (0, u "Ljava/io/InputStream;"), (35, u "bootLayer"), (0, u "Ljava/lang/ModuleLayer;"), (99, .class_ 664), (0, u "java/lang/System$2"), (9, u "NEVER"), (2, u "MAYBE"), (49, u "arraycopy"), (0, u "(Ljava/lang/Object;ILjava/lang/Object;II)V"), (72, .class_ 802), (0, u "java/lang/System$Logger$Level")] 31

def k14m0 : Method := { name := "<init>", desc := "()V", sig := { parameters := [], returnType := none }, accessFlags := 2, code := none }
def k14m1 : Method := { name := "arraycopy", desc := "(Ljava/lang/Object;ILjava/lang/Object;II)V", sig := { parameters := [(.object "java/lang/Object"), .int, (.object "java/lang/Object"), .int, .int], returnType := none }, accessFlags := 265, code := none }
/-- java/lang/System -/
def k14 : Class := { plain "java/lang/System" (some 0) with
  accessFlags := 49
  interfaces := #[]
  cf := some (fileOf pool14 8 #[.nestMembers #[319, 327, 801, 108, 663, 208]] #[{ accessFlags := 2, nameIndex := 5, descriptorIndex := 6, attributes := #[] }, { accessFlags := 265, nameIndex := 727, descriptorIndex := 728, attributes := #[] }] 49 2 #[] #[{ accessFlags := 25, nameIndex := 507, descriptorIndex := 526, attributes := #[] }, { accessFlags := 25, nameIndex := 399, descriptorIndex := 155, attributes := #[] }, { accessFlags := 25, nameIndex := 396, descriptorIndex := 155, attributes := #[] }, { accessFlags := 10, nameIndex := 525, descriptorIndex := 526, attributes := #[] }, { accessFlags := 26, nameIndex := 674, descriptorIndex := 12, attributes := #[] }, { accessFlags := 26, nameIndex := 677, descriptorIndex := 12, attributes := #[] }, { accessFlags := 10, nameIndex := 11, descriptorIndex := 12, attributes := #[] }, { accessFlags := 74, nameIndex := 175, descriptorIndex := 176, attributes := #[] }, { accessFlags := 10, nameIndex := 491, descriptorIndex := 222, attributes := #[] }, { accessFlags := 74, nameIndex := 29, descriptorIndex := 30, attributes := #[] }, { accessFlags := 74, nameIndex := 154, descriptorIndex := 155, attributes := #[] }, { accessFlags := 10, nameIndex := 217, descriptorIndex := 218, attributes := #[] }, { accessFlags := 10, nameIndex := 221, descriptorIndex := 222, attributes := #[] }, { accessFlags := 8, nameIndex := 562, descriptorIndex := 563, attributes := #[] }])
  fields := #[{ name := "in", type := (.object "java/io/InputStream"), accessFlags := 25, slot := 0, constantValue := 0 }, { name := "out", type := (.object "java/io/PrintStream"), accessFlags := 25, slot := 1, constantValue := 0 }, { name := "err", type := (.object "java/io/PrintStream"), accessFlags := 25, slot := 2, constantValue := 0 }, { name := "initialIn", type := (.object "java/io/InputStream"), accessFlags := 10, slot := 3, constantValue := 0 }, { name := "NEVER", type := .int, accessFlags := 26, slot := 4, constantValue := 0 }, { name := "MAYBE", type := .int, accessFlags := 26, slot := 5, constantValue := 0 }, { name := "allowSecurityManager", type := .int, accessFlags := 10, slot := 6, constantValue := 0 }, { name := "security", type := (.object "java/lang/SecurityManager"), accessFlags := 74, slot := 7, constantValue := 0 }, { name := "notSupportedJnuEncoding", type := (.object "java/lang/String"), accessFlags := 10, slot := 8, constantValue := 0 }, { name := "cons", type := (.object "java/io/Console"), accessFlags := 74, slot := 9, constantValue := 0 }, { name := "initialErrStream", type := (.object "java/io/PrintStream"), accessFlags := 74, slot := 10, constantValue := 0 }, { name := "props", type := (.object "java/util/Properties"), accessFlags := 10, slot := 11, constantValue := 0 }, { name := "lineSeparator", type := (.object "java/lang/String"), accessFlags := 10, slot := 12, constantValue := 0 }, { name := "bootLayer", type := (.object "java/lang/ModuleLayer"), accessFlags := 8, slot := 13, constantValue := 0 }]
  methods := #[k14m0, k14m1]
  instanceTypes := #[]
  staticTypes := #[(.object "java/io/InputStream"), (.object "java/io/PrintStream"), (.object "java/io/PrintStream"), (.object "java/io/InputStream"), .int, .int, .int, (.object "java/lang/SecurityManager"), (.object "java/lang/String"), (.object "java/io/Console"), (.object "java/io/PrintStream"), (.object "java/util/Properties"), (.object "java/lang/String"), (.object "java/lang/ModuleLayer")]
  resolved := Array.replicate 834 none
  statics := none }

def pool15 : Array CpInfo := pool [(2, .class_ 4), (1, u "java/lang/Object"), (0, u "<init>"), (0, u "()V"), (1, .class_ 10), (1, u "java/lang/Number"), (2, .class_ 14), (0, u "java/io/Serializable"), (0, u "serialVersionUID"), (0, u "J")] 20

def k15m0 : Method := { name := "<init>", desc := "()V", sig := { parameters := [], returnType := none }, accessFlags := 1, code := none }
/-- java/lang/Number -/
def k15 : Class := { plain "java/lang/Number" (some 0) with
  accessFlags := 1057
  interfaces := #[3]
  cf := some (fileOf pool15 8 #[] #[{ accessFlags := 1, nameIndex := 5, descriptorIndex := 6, attributes := #[] }] 1057 2 #[13] #[{ accessFlags := 26, nameIndex := 15, descriptorIndex := 16, attributes := #[] }])
  fields := #[{ name := "serialVersionUID", type := .long, accessFlags := 26, slot := 0, constantValue := 0 }]
  methods := #[k15m0]
  instanceTypes := #[]
  staticTypes := #[.long]
  resolved := Array.replicate 37 none
  statics := none }

def pool16 : Array CpInfo := pool [(1, .class_ 2), (0, u "java/lang/Integer"), (16, u "digits"), (0, u "[C"), (33, u "(I)I"), (19, u "stringSize"), (2, u "getChars"), (0, u "(II[B)I"), (4, .fieldref 1 84), (0, .nameAndType 85 86), (0, u "DigitOnes"), (0, u "[B"), (2, u "DigitTens"), (99, .class_ 190), (0, u "java/lang/Integer$IntegerCache"), (3, u "I"), (8, .class_ 204), (0, u "java/lang/Number"), (2, u "value"), (94, u "TYPE"), (0, u "Ljava/lang/Class;"), (0, .class_ 305), (0, u "java/lang/Comparable"), (0, .class_ 307), (0, u "java/lang/constant/Constable"), (0, .class_ 309), (0, u "java/lang/constant/ConstantDesc"), (0, u "MIN_VALUE"), (1, u "MAX_VALUE"), (3, u "SIZE"), (1, u "BYTES"), (1, u "serialVersionUID"), (0, u "J")] 131

def k16c0 : Code := { maxStack := 4, maxLocals := 7, code := jdk_33_method_12_code, exceptionTable := #[], attributes := #[] }
def k16m0 : Method := { name := "getChars", desc := "(II[B)I", sig := { parameters := [.int, .int, (.array .byte)], returnType := some .int }, accessFlags := 8, code := some k16c0 }
def k16c1 : Code := { maxStack := 2, maxLocals := 4, code := jdk_33_method_13_code, exceptionTable := #[], attributes := #[] }
def k16m1 : Method := { name := "stringSize", desc := "(I)I", sig := { parameters := [.int], returnType := some .int }, accessFlags := 8, code := some k16c1 }
/-- java/lang/Integer -/
def k16 : Class := { plain "java/lang/Integer" (some 15) with
  accessFlags := 49
  interfaces := #[4, 6, 7]
  cf := some (fileOf pool16 1 #[.nestMembers #[189]] #[{ accessFlags := 8, nameIndex := 77, descriptorIndex := 78, attributes := #[] }, { accessFlags := 8, nameIndex := 74, descriptorIndex := 54, attributes := #[] }] 49 203 #[304, 306, 308] #[{ accessFlags := 25, nameIndex := 310, descriptorIndex := 194, attributes := #[] }, { accessFlags := 25, nameIndex := 312, descriptorIndex := 194, attributes := #[] }, { accessFlags := 25, nameIndex := 302, descriptorIndex := 303, attributes := #[] }, { accessFlags := 24, nameIndex := 19, descriptorIndex := 20, attributes := #[] }, { accessFlags := 24, nameIndex := 89, descriptorIndex := 86, attributes := #[] }, { accessFlags := 24, nameIndex := 85, descriptorIndex := 86, attributes := #[] }, { accessFlags := 18, nameIndex := 207, descriptorIndex := 194, attributes := #[] }, { accessFlags := 25, nameIndex := 316, descriptorIndex := 194, attributes := #[] }, { accessFlags := 25, nameIndex := 318, descriptorIndex := 194, attributes := #[] }, { accessFlags := 26, nameIndex := 320, descriptorIndex := 321, attributes := #[] }])
  fields := #[{ name := "MIN_VALUE", type := .int, accessFlags := 25, slot := 0, constantValue := 0 }, { name := "MAX_VALUE", type := .int, accessFlags := 25, slot := 1, constantValue := 0 }, { name := "TYPE", type := (.object "java/lang/Class"), accessFlags := 25, slot := 2, constantValue := 0 }, { name := "digits", type := (.array .char), accessFlags := 24, slot := 3, constantValue := 0 }, { name := "DigitTens", type := (.array .byte), accessFlags := 24, slot := 4, constantValue := 0 }, { name := "DigitOnes", type := (.array .byte), accessFlags := 24, slot := 5, constantValue := 0 }, { name := "value", type := .int, accessFlags := 18, slot := 0, constantValue := 0 }, { name := "SIZE", type := .int, accessFlags := 25, slot := 6, constantValue := 0 }, { name := "BYTES", type := .int, accessFlags := 25, slot := 7, constantValue := 0 }, { name := "serialVersionUID", type := .long, accessFlags := 26, slot := 8, constantValue := 0 }]
  methods := #[k16m0, k16m1]
  instanceTypes := #[.int]
  staticTypes := #[.int, .int, (.object "java/lang/Class"), (.array .char), (.array .byte), (.array .byte), .int, .int, .long]
  resolved := Array.replicate 453 none
  statics := some 3 }

def pool17 : Array CpInfo := pool [(2, .class_ 4), (1, u "java/lang/Object"), (0, u "<init>"), (0, u "()V"), (7, .class_ 16), (1, u "java/util/Arrays"), (57, .class_ 76), (1, u "java/util/Arrays$NaturalOrder"), (36, .class_ 115), (1, u "java/util/Arrays$LegacyMergeSort"), (1, u "Z"), (21, u "copyOfRange"), (10, .methodref 151 152), (0, .class_ 153), (0, .nameAndType 154 155), (0, u "java/lang/System"), (0, u "arraycopy"), (0, u "(Ljava/lang/Object;ILjava/lang/Object;II)V"), (148, .methodref 305 306), (0, .class_ 307), (0, .nameAndType 308 309), (0, u "java/lang/Math"), (0, u "min"), (0, u "(II)I"), (29, .methodref 14 340), (0, .nameAndType 341 342), (0, u "copyOfRangeByte"), (0, u "([BII)[B"), (0, .methodref 14 344), (0, .nameAndType 345 346), (0, u "checkLength"), (0, u "(II)V"), (28, .class_ 376), (0, u "java/util/Arrays$ArrayList"), (68, u "$assertionsDisabled"), (269, u "MIN_ARRAY_SORT_GRAN"), (0, u "I"), (2, u "INSERTIONSORT_THRESHOLD"), (255, .class_ 976), (0, u "java/util/Arrays$ArrayItr")] 52

def k17m0 : Method := { name := "<init>", desc := "()V", sig := { parameters := [], returnType := none }, accessFlags := 2, code := none }
def k17c1 : Code := { maxStack := 4, maxLocals := 2, code := jdk_65_method_131_code, exceptionTable := #[], attributes := #[] }
def k17m1 : Method := { name := "checkLength", desc := "(II)V", sig := { parameters := [.int, .int], returnType := none }, accessFlags := 10, code := some k17c1 }
def k17c2 : Code := { maxStack := 3, maxLocals := 3, code := jdk_65_method_132_code, exceptionTable := #[], attributes := #[] }
def k17m2 : Method := { name := "copyOfRange", desc := "([BII)[B", sig := { parameters := [(.array .byte), .int, .int], returnType := some (.array .byte) }, accessFlags := 9, code := some k17c2 }
def k17c3 : Code := { maxStack := 6, maxLocals := 5, code := jdk_65_method_133_code, exceptionTable := #[], attributes := #[] }
def k17m3 : Method := { name := "copyOfRangeByte", desc := "([BII)[B", sig := { parameters := [(.array .byte), .int, .int], returnType := some (.array .byte) }, accessFlags := 10, code := some k17c3 }
/-- java/util/Arrays -/
def k17 : Class := { plain "java/util/Arrays" (some 0) with
  accessFlags := 49
  interfaces := #[]
  cf := some (fileOf pool17 14 #[.nestMembers #[975, 375, 113, 74]] #[{ accessFlags := 2, nameIndex := 5, descriptorIndex := 6, attributes := #[] }, { accessFlags := 10, nameIndex := 345, descriptorIndex := 346, attributes := #[] }, { accessFlags := 9, nameIndex := 139, descriptorIndex := 342, attributes := #[] }, { accessFlags := 10, nameIndex := 341, descriptorIndex := 342, attributes := #[] }] 49 2 #[] #[{ accessFlags := 26, nameIndex := 715, descriptorIndex := 716, attributes := #[] }, { accessFlags := 26, nameIndex := 719, descriptorIndex := 716, attributes := #[] }, { accessFlags := 4120, nameIndex := 445, descriptorIndex := 117, attributes := #[] }])
  fields := #[{ name := "MIN_ARRAY_SORT_GRAN", type := .int, accessFlags := 26, slot := 0, constantValue := 0 }, { name := "INSERTIONSORT_THRESHOLD", type := .int, accessFlags := 26, slot := 1, constantValue := 0 }, { name := "$assertionsDisabled", type := .boolean, accessFlags := 4120, slot := 2, constantValue := 0 }]
  methods := #[k17m0, k17m1, k17m2, k17m3]
  instanceTypes := #[]
  staticTypes := #[.int, .int, .boolean]
  resolved := Array.replicate 1029 none
  statics := none }

def pool18 : Array CpInfo := pool [(1, .class_ 2), (0, u "java/lang/Math"), (1, .class_ 6), (1, u "java/lang/Object"), (0, u "<init>"), (0, u "()V"), (89, .class_ 100), (1, u "java/lang/Math$RandomNumberGeneratorHolder"), (71, u "negativeZeroFloatBits"), (0, u "J"), (2, u "negativeZeroDoubleBits"), (24, u "min"), (43, u "$assertionsDisabled"), (0, u "Z"), (88, u "(II)I"), (2, u "twoToTheDoubleScaleDown"), (0, u "D"), (4, u "twoToTheDoubleScaleUp"), (9, u "E"), (3, u "PI"), (2, u "TAU"), (2, u "DEGREES_TO_RADIANS"), (0, u "RADIANS_TO_DEGREES")] 94

def k18m0 : Method := { name := "<init>", desc := "()V", sig := { parameters := [], returnType := none }, accessFlags := 2, code := none }
def k18c1 : Code := { maxStack := 2, maxLocals := 2, code := jdk_29_method_69_code, exceptionTable := #[], attributes := #[] }
def k18m1 : Method := { name := "min", desc := "(II)I", sig := { parameters := [.int, .int], returnType := some .int }, accessFlags := 9, code := some k18c1 }
/-- java/lang/Math -/
def k18 : Class := { plain "java/lang/Math" (some 0) with
  accessFlags := 49
  interfaces := #[]
  cf := some (fileOf pool18 1 #[.nestMembers #[98]] #[{ accessFlags := 2, nameIndex := 7, descriptorIndex := 8, attributes := #[] }, { accessFlags := 9, nameIndex := 201, descriptorIndex := 335, attributes := #[] }] 49 4 #[] #[{ accessFlags := 25, nameIndex := 354, descriptorIndex := 339, attributes := #[] }, { accessFlags := 25, nameIndex := 358, descriptorIndex := 339, attributes := #[] }, { accessFlags := 25, nameIndex := 361, descriptorIndex := 339, attributes := #[] }, { accessFlags := 26, nameIndex := 364, descriptorIndex := 339, attributes := #[] }, { accessFlags := 26, nameIndex := 365, descriptorIndex := 339, attributes := #[] }, { accessFlags := 26, nameIndex := 172, descriptorIndex := 173, attributes := #[] }, { accessFlags := 26, nameIndex := 176, descriptorIndex := 173, attributes := #[] }, { accessFlags := 8, nameIndex := 344, descriptorIndex := 339, attributes := #[] }, { accessFlags := 8, nameIndex := 338, descriptorIndex := 339, attributes := #[] }, { accessFlags := 4120, nameIndex := 245, descriptorIndex := 246, attributes := #[] }])
  fields := #[{ name := "E", type := .double, accessFlags := 25, slot := 0, constantValue := 0 }, { name := "PI", type := .double, accessFlags := 25, slot := 1, constantValue := 0 }, { name := "TAU", type := .double, accessFlags := 25, slot := 2, constantValue := 0 }, { name := "DEGREES_TO_RADIANS", type := .double, accessFlags := 26, slot := 3, constantValue := 0 }, { name := "RADIANS_TO_DEGREES", type := .double, accessFlags := 26, slot := 4, constantValue := 0 }, { name := "negativeZeroFloatBits", type := .long, accessFlags := 26, slot := 5, constantValue := 0 }, { name := "negativeZeroDoubleBits", type := .long, accessFlags := 26, slot := 6, constantValue := 0 }, { name := "twoToTheDoubleScaleUp", type := .double, accessFlags := 8, slot := 7, constantValue := 0 }, { name := "twoToTheDoubleScaleDown", type := .double, accessFlags := 8, slot := 8, constantValue := 0 }, { name := "$assertionsDisabled", type := .boolean, accessFlags := 4120, slot := 9, constantValue := 0 }]
  methods := #[k18m0, k18m1]
  instanceTypes := #[]
  staticTypes := #[.double, .double, .double, .double, .double, .long, .long, .double, .double, .boolean]
  resolved := Array.replicate 460 none
  statics := none }

def pool19 : Array CpInfo := pool [(9, u "<init>"), (6, .class_ 18), (1, u "java/lang/Object"), (0, u "()V"), (1, .class_ 23), (1, u "jdk/internal/util/ArraysSupport"), (0, u "LOG2_ARRAY_LONG_INDEX_SCALE"), (0, u "I"), (2, u "U"), (0, u "Ljdk/internal/misc/Unsafe;"), (8, u "BIG_ENDIAN"), (0, u "Z"), (8, u "LOG2_BYTE_BIT_SIZE"), (4, u "LOG2_ARRAY_INT_INDEX_SCALE"), (54, u "JLA"), (0, u "Ljdk/internal/access/JavaLangAccess;"), (11, u "LOG2_ARRAY_BOOLEAN_INDEX_SCALE"), (9, u "LOG2_ARRAY_BYTE_INDEX_SCALE"), (5, u "LOG2_ARRAY_CHAR_INDEX_SCALE"), (5, u "LOG2_ARRAY_SHORT_INDEX_SCALE"), (18, u "LOG2_ARRAY_FLOAT_INDEX_SCALE"), (24, u "LOG2_ARRAY_DOUBLE_INDEX_SCALE"), (89, u "T_BOOLEAN"), (2, u "T_CHAR"), (1, u "T_FLOAT"), (1, u "T_DOUBLE"), (1, u "T_BYTE"), (1, u "T_SHORT"), (1, u "T_INT"), (1, u "T_LONG"), (1, u "SOFT_MAX_ARRAY_LENGTH")] 83

def k19m0 : Method := { name := "<init>", desc := "()V", sig := { parameters := [], returnType := none }, accessFlags := 2, code := none }
/-- jdk/internal/util/ArraysSupport -/
def k19 : Class := { plain "jdk/internal/util/ArraysSupport" (some 0) with
  accessFlags := 33
  interfaces := #[]
  cf := some (fileOf pool19 21 #[] #[{ accessFlags := 2, nameIndex := 9, descriptorIndex := 19, attributes := #[] }] 33 16 #[] #[{ accessFlags := 24, nameIndex := 28, descriptorIndex := 29, attributes := #[] }, { accessFlags := 26, nameIndex := 38, descriptorIndex := 39, attributes := #[] }, { accessFlags := 25, nameIndex := 121, descriptorIndex := 25, attributes := #[] }, { accessFlags := 25, nameIndex := 131, descriptorIndex := 25, attributes := #[] }, { accessFlags := 25, nameIndex := 137, descriptorIndex := 25, attributes := #[] }, { accessFlags := 25, nameIndex := 143, descriptorIndex := 25, attributes := #[] }, { accessFlags := 25, nameIndex := 53, descriptorIndex := 25, attributes := #[] }, { accessFlags := 25, nameIndex := 24, descriptorIndex := 25, attributes := #[] }, { accessFlags := 25, nameIndex := 162, descriptorIndex := 25, attributes := #[] }, { accessFlags := 25, nameIndex := 187, descriptorIndex := 25, attributes := #[] }, { accessFlags := 26, nameIndex := 48, descriptorIndex := 25, attributes := #[] }, { accessFlags := 25, nameIndex := 277, descriptorIndex := 25, attributes := #[] }, { accessFlags := 25, nameIndex := 280, descriptorIndex := 25, attributes := #[] }, { accessFlags := 25, nameIndex := 282, descriptorIndex := 25, attributes := #[] }, { accessFlags := 25, nameIndex := 284, descriptorIndex := 25, attributes := #[] }, { accessFlags := 25, nameIndex := 286, descriptorIndex := 25, attributes := #[] }, { accessFlags := 25, nameIndex := 288, descriptorIndex := 25, attributes := #[] }, { accessFlags := 25, nameIndex := 290, descriptorIndex := 25, attributes := #[] }, { accessFlags := 25, nameIndex := 292, descriptorIndex := 25, attributes := #[] }, { accessFlags := 26, nameIndex := 108, descriptorIndex := 109, attributes := #[] }, { accessFlags := 25, nameIndex := 294, descriptorIndex := 25, attributes := #[] }])
  fields := #[{ name := "U", type := (.object "jdk/internal/misc/Unsafe"), accessFlags := 24, slot := 0, constantValue := 0 }, { name := "BIG_ENDIAN", type := .boolean, accessFlags := 26, slot := 1, constantValue := 0 }, { name := "LOG2_ARRAY_BOOLEAN_INDEX_SCALE", type := .int, accessFlags := 25, slot := 2, constantValue := 0 }, { name := "LOG2_ARRAY_BYTE_INDEX_SCALE", type := .int, accessFlags := 25, slot := 3, constantValue := 0 }, { name := "LOG2_ARRAY_CHAR_INDEX_SCALE", type := .int, accessFlags := 25, slot := 4, constantValue := 0 }, { name := "LOG2_ARRAY_SHORT_INDEX_SCALE", type := .int, accessFlags := 25, slot := 5, constantValue := 0 }, { name := "LOG2_ARRAY_INT_INDEX_SCALE", type := .int, accessFlags := 25, slot := 6, constantValue := 0 }, { name := "LOG2_ARRAY_LONG_INDEX_SCALE", type := .int, accessFlags := 25, slot := 7, constantValue := 0 }, { name := "LOG2_ARRAY_FLOAT_INDEX_SCALE", type := .int, accessFlags := 25, slot := 8, constantValue := 0 }, { name := "LOG2_ARRAY_DOUBLE_INDEX_SCALE", type := .int, accessFlags := 25, slot := 9, constantValue := 0 }, { name := "LOG2_BYTE_BIT_SIZE", type := .int, accessFlags := 26, slot := 10, constantValue := 0 }, { name := "T_BOOLEAN", type := .int, accessFlags := 25, slot := 11, constantValue := 0 }, { name := "T_CHAR", type := .int, accessFlags := 25, slot := 12, constantValue := 0 }, { name := "T_FLOAT", type := .int, accessFlags := 25, slot := 13, constantValue := 0 }, { name := "T_DOUBLE", type := .int, accessFlags := 25, slot := 14, constantValue := 0 }, { name := "T_BYTE", type := .int, accessFlags := 25, slot := 15, constantValue := 0 }, { name := "T_SHORT", type := .int, accessFlags := 25, slot := 16, constantValue := 0 }, { name := "T_INT", type := .int, accessFlags := 25, slot := 17, constantValue := 0 }, { name := "T_LONG", type := .int, accessFlags := 25, slot := 18, constantValue := 0 }, { name := "JLA", type := (.object "jdk/internal/access/JavaLangAccess"), accessFlags := 26, slot := 19, constantValue := 0 }, { name := "SOFT_MAX_ARRAY_LENGTH", type := .int, accessFlags := 25, slot := 20, constantValue := 0 }]
  methods := #[k19m0]
  instanceTypes := #[]
  staticTypes := #[(.object "jdk/internal/misc/Unsafe"), .boolean, .int, .int, .int, .int, .int, .int, .int, .int, .int, .int, .int, .int, .int, .int, .int, .int, .int, (.object "jdk/internal/access/JavaLangAccess"), .int]
  resolved := Array.replicate 378 none
  statics := none }

def pool20 : Array CpInfo := pool [(1, u "java/lang/Cloneable"), (0, .class_ 1), (0, u "java/lang/Object"), (0, .class_ 3)] 3

/-- java/lang/Cloneable -/
def k20 : Class := { plain "java/lang/Cloneable" (some 0) with
  accessFlags := 1537
  interfaces := #[]
  cf := some (fileOf pool20 2 #[] #[] 1537 4 #[] #[])
  fields := #[]
  methods := #[]
  instanceTypes := #[]
  staticTypes := #[]
  resolved := Array.replicate 8 none
  statics := none }

/-- the primitive byte -/
def k21 : Class := { plain "byte" none with kind := .primitive 'B', accessFlags := 0x411 }
/-- [B -/
def k22 : Class := { plain "[B" (some 0) with kind := .array 21 .byte, interfaces := #[20, 3], accessFlags := 1041 }

/-- the primitive int -/
def k23 : Class := { plain "int" none with kind := .primitive 'I', accessFlags := 0x411 }
/-- [I -/
def k24 : Class := { plain "[I" (some 0) with kind := .array 23 .int, interfaces := #[20, 3], accessFlags := 1041 }

/-- [Ljava/lang/String; -/
def k25 : Class := { plain "[Ljava/lang/String;" (some 0) with kind := .array 8 (.object "java/lang/String"), interfaces := #[20, 3], accessFlags := 1041 }

def heap : Heap := #[{ cls := 2, slots := #[.int 0, .int 0, .int 0, .int 0, .int 0, .int 0, .int 0, .int 0, .ref 4, .int 0, .null], vm := .statics 2 },
  { cls := 8, slots := #[.long 0, .int 1, .null, .int 0, .null, .int 0, .int 0], vm := .statics 8 },
  { cls := 10, slots := #[.null, .null, .null], vm := .statics 10 },
  { cls := 16, slots := #[.int 0, .int 0, .null, .null, .ref 18, .ref 17, .int 0, .int 0, .long 0], vm := .statics 16 },
  { cls := 25, slots := #[.ref 5, .ref 6, .ref 7, .ref 8, .ref 9, .ref 10], vm := .none },
  { cls := 8, slots := #[.ref 11, .int 0, .int 0, .int 0], vm := .none },
  { cls := 8, slots := #[.ref 12, .int 0, .int 0, .int 0], vm := .none },
  { cls := 8, slots := #[.ref 13, .int 0, .int 0, .int 0], vm := .none },
  { cls := 8, slots := #[.ref 14, .int 0, .int 0, .int 0], vm := .none },
  { cls := 8, slots := #[.ref 15, .int 0, .int 0, .int 0], vm := .none },
  { cls := 8, slots := #[.ref 16, .int 0, .int 0, .int 0], vm := .none },
  { cls := 22, slots := #[.int 68, .int 65, .int 84, .int 65], vm := .none },
  { cls := 22, slots := #[.int 104, .int 101, .int 97, .int 100, .int 101, .int 114], vm := .none },
  { cls := 22, slots := #[.int 67, .int 70, .int 71, .int 45, .int 49], vm := .none },
  { cls := 22, slots := #[.int 67, .int 70, .int 71, .int 45, .int 50], vm := .none },
  { cls := 22, slots := #[.int 99, .int 111, .int 109, .int 109, .int 97, .int 110, .int 100], vm := .none },
  { cls := 22, slots := #[.int 67, .int 70, .int 71, .int 45, .int 51], vm := .none },
  { cls := 22, slots := #[.int 48, .int 49, .int 50, .int 51, .int 52, .int 53, .int 54, .int 55, .int 56, .int 57, .int 48, .int 49, .int 50, .int 51, .int 52, .int 53, .int 54, .int 55, .int 56, .int 57, .int 48, .int 49, .int 50, .int 51, .int 52, .int 53, .int 54, .int 55, .int 56, .int 57, .int 48, .int 49, .int 50, .int 51, .int 52, .int 53, .int 54, .int 55, .int 56, .int 57, .int 48, .int 49, .int 50, .int 51, .int 52, .int 53, .int 54, .int 55, .int 56, .int 57, .int 48, .int 49, .int 50, .int 51, .int 52, .int 53, .int 54, .int 55, .int 56, .int 57, .int 48, .int 49, .int 50, .int 51, .int 52, .int 53, .int 54, .int 55, .int 56, .int 57, .int 48, .int 49, .int 50, .int 51, .int 52, .int 53, .int 54, .int 55, .int 56, .int 57, .int 48, .int 49, .int 50, .int 51, .int 52, .int 53, .int 54, .int 55, .int 56, .int 57, .int 48, .int 49, .int 50, .int 51, .int 52, .int 53, .int 54, .int 55, .int 56, .int 57], vm := .none },
  { cls := 22, slots := #[.int 48, .int 48, .int 48, .int 48, .int 48, .int 48, .int 48, .int 48, .int 48, .int 48, .int 49, .int 49, .int 49, .int 49, .int 49, .int 49, .int 49, .int 49, .int 49, .int 49, .int 50, .int 50, .int 50, .int 50, .int 50, .int 50, .int 50, .int 50, .int 50, .int 50, .int 51, .int 51, .int 51, .int 51, .int 51, .int 51, .int 51, .int 51, .int 51, .int 51, .int 52, .int 52, .int 52, .int 52, .int 52, .int 52, .int 52, .int 52, .int 52, .int 52, .int 53, .int 53, .int 53, .int 53, .int 53, .int 53, .int 53, .int 53, .int 53, .int 53, .int 54, .int 54, .int 54, .int 54, .int 54, .int 54, .int 54, .int 54, .int 54, .int 54, .int 55, .int 55, .int 55, .int 55, .int 55, .int 55, .int 55, .int 55, .int 55, .int 55, .int 56, .int 56, .int 56, .int 56, .int 56, .int 56, .int 56, .int 56, .int 56, .int 56, .int 57, .int 57, .int 57, .int 57, .int 57, .int 57, .int 57, .int 57, .int 57, .int 57], vm := .none }]
def classes : Array Class := #[k0, k1, k2, k3, k4, k5, k6, k7, k8, k9, k10, k11, k12, k13, k14, k15, k16, k17, k18, k19, k20, k21, k22, k23, k24, k25]
def interned : List (Array UInt16 × Addr) := []
def slotsUsed : Nat := 292
def theMethod : MethodId := ⟨1, 1⟩
def args0 : Array Value := #[.int 5]
def aboutOver (below : List Frame) : State where
  vm := { classes := classes, interned := interned.toArray }
  heap := heap
  slotsUsed := slotsUsed
  threads := #[{ frames := .invoking theMethod args0 :: below }]
def below0 : List Frame := [.native { method := ⟨0, 0⟩, args := #[] }]
def about1 : State := aboutOver below0
def p0 : Program := .bare "" "" ""
def e0 : Env := launch0.env 0 0 0
theorem w_frames : about1.frames = Frame.invoking theMethod args0 :: below0 := rfl
set_option maxRecDepth 65536 in
theorem w_args : argsFit about1.vm theMethod args0 = true := by decide +kernel
set_option maxRecDepth 65536 in
theorem w_heap : heapFits about1 = true := by decide +kernel
set_option maxRecDepth 65536 in
theorem w_runnable : about1.curStatus? = some .runnable := by decide +kernel
set_option maxRecDepth 65536 in
theorem w_alone : about1.alone = true := by decide +kernel
set_option maxRecDepth 65536 in
theorem w_named : about1.methodNamed? x = some theMethod := by decide +kernel
set_option maxRecDepth 65536 in
theorem w_hears : about1.hears theMethod below0 = true := by decide +kernel
set_option maxRecDepth 65536 in
theorem w_ripe : about1.ripe theMethod args0 below0 = true := by decide +kernel
theorem w_running : about1.status = .running := rfl
set_option maxRecDepth 65536 in
theorem w_room : about1.hasRoom e0.platform room_1 = true :=
  launch0.hasRoom_least _ room_1 (by decide +kernel) (by decide +kernel) (by decide +kernel) (by decide +kernel) (by decide +kernel) (by decide +kernel)
theorem allAtoms_all (ts : List Jvm.Cond) (a : Array Jvm.Value) (st : Jvm.State) : (allAtoms ts).before a st = ts.all (fun c => c.before a st) := by
  induction ts with
  | nil => rfl
  | cons c t ih =>
    show (Jvm.Cond.and c (allAtoms t)).before a st = _
    rw [Jvm.Cond.before_and, ih, List.all_cons]
def words1 : List Jvm.Cond := Jvm.Cond.code x code maxLocals ret :: tables_1
/-- a 'code' word, met by the world's own term for the bytes: nothing is compared byte by byte -/
theorem code_word {y : MethodName} {bytes : ByteArray} {mx : Nat} {rt : Option FieldType} {a : Array Value} {s : State} {m : MethodId} {meth : Method} {c : Code} (h1 : s.methodNamed? y = some m) (h2 : s.vm.method? m = some meth) (h3 : meth.code = some c) (h4 : c.code = bytes)
    (h5 : (c.maxLocals == mx && c.exceptionTable.isEmpty && decide (c.maxStack ≤ mostOperands) && decide (meth.sig.returnType = rt) && !meth.locks && decide (parseMethodDescriptor y.desc = some meth.sig)) = true) : (Jvm.Cond.code y bytes mx rt).before a s = true := by
  simp only [Bool.and_eq_true, beq_iff_eq, Bool.not_eq_true', decide_eq_true_eq] at h5
  obtain ⟨⟨⟨⟨⟨g1, g2⟩, g3⟩, g4⟩, g5⟩, g6⟩ := h5
  simp [Cond.before, Cond.holds, Cond.value, h1, h2, h3, h4, g1, g2, g3, g4, g5, g6]
def isCode : Jvm.Cond → Bool
  | .code _ _ _ _ => true
  | _ => false
theorem all_split {L : List Jvm.Cond} {P : Jvm.Cond → Bool} (h1 : L.all (fun c => isCode c || P c) = true) (h2 : ∀ c ∈ L.filter isCode, P c = true) : L.all P = true := by
  refine List.all_eq_true.mpr fun c hc => ?_
  have h := List.all_eq_true.mp h1 c hc
  rcases Bool.eq_false_or_eq_true (isCode c) with hi | hi
  · exact h2 c (List.mem_filter.mpr ⟨hc, hi⟩)
  · simpa [hi] using h
set_option maxRecDepth 65536 in
theorem w_c0 : (Jvm.Cond.code x code maxLocals ret).before args0 about1 = true := code_word (m := ⟨1, 1⟩) (meth := k1m1) (c := k1c1) (by decide +kernel) rfl rfl rfl (by decide +kernel)
set_option maxRecDepth 65536 in
theorem w_c1 : (Jvm.Cond.code ({ cls := "com/example/feeder/feeder/adapters/FrameFormat", name := "isConfiguration", desc := "(I)Z" } : Jvm.MethodName) prog_3_method_4_code (1 : Nat) (Option.some Jvm.ClassFile.FieldType.boolean)).before args0 about1 = true := code_word (m := ⟨2, 1⟩) (meth := k2m1) (c := k2c1) (by decide +kernel) rfl rfl rfl (by decide +kernel)
set_option maxRecDepth 65536 in
theorem w_c2 : (Jvm.Cond.code ({ cls := "com/example/feeder/feeder/adapters/FrameFormat", name := "typeName", desc := "(I)Ljava/lang/String;" } : Jvm.MethodName) prog_3_method_5_code (1 : Nat) (Option.some (Jvm.ClassFile.FieldType.object "java/lang/String"))).before args0 about1 = true := code_word (m := ⟨2, 2⟩) (meth := k2m2) (c := k2c2) (by decide +kernel) rfl rfl rfl (by decide +kernel)
set_option maxRecDepth 65536 in
theorem w_c3 : (Jvm.Cond.code ({ cls := "java/lang/String", name := "length", desc := "()I" } : Jvm.MethodName) jdk_42_method_54_code (1 : Nat) (Option.some Jvm.ClassFile.FieldType.int)).before args0 about1 = true := code_word (m := ⟨8, 2⟩) (meth := k8m2) (c := k8c2) (by decide +kernel) rfl rfl rfl (by decide +kernel)
set_option maxRecDepth 65536 in
theorem w_c4 : (Jvm.Cond.code ({ cls := "java/lang/String", name := "coder", desc := "()B" } : Jvm.MethodName) jdk_42_method_152_code (1 : Nat) (Option.some Jvm.ClassFile.FieldType.byte)).before args0 about1 = true := code_word (m := ⟨8, 6⟩) (meth := k8m6) (c := k8c6) (by decide +kernel) rfl rfl rfl (by decide +kernel)
set_option maxRecDepth 65536 in
theorem w_c5 : (Jvm.Cond.code ({ cls := "java/lang/String", name := "charAt", desc := "(I)C" } : Jvm.MethodName) jdk_42_method_56_code (2 : Nat) (Option.some Jvm.ClassFile.FieldType.char)).before args0 about1 = true := code_word (m := ⟨8, 3⟩) (meth := k8m3) (c := k8c3) (by decide +kernel) rfl rfl rfl (by decide +kernel)
set_option maxRecDepth 65536 in
theorem w_c6 : (Jvm.Cond.code ({ cls := "java/lang/String", name := "isLatin1", desc := "()Z" } : Jvm.MethodName) jdk_42_method_154_code (1 : Nat) (Option.some Jvm.ClassFile.FieldType.boolean)).before args0 about1 = true := code_word (m := ⟨8, 7⟩) (meth := k8m7) (c := k8c7) (by decide +kernel) rfl rfl rfl (by decide +kernel)
set_option maxRecDepth 65536 in
theorem w_c7 : (Jvm.Cond.code ({ cls := "java/lang/StringLatin1", name := "charAt", desc := "([BI)C" } : Jvm.MethodName) jdk_43_method_2_code (2 : Nat) (Option.some Jvm.ClassFile.FieldType.char)).before args0 about1 = true := code_word (m := ⟨9, 1⟩) (meth := k9m1) (c := k9c1) (by decide +kernel) rfl rfl rfl (by decide +kernel)
set_option maxRecDepth 65536 in
theorem w_c8 : (Jvm.Cond.code ({ cls := "java/lang/String", name := "checkIndex", desc := "(II)V" } : Jvm.MethodName) jdk_42_method_155_code (2 : Nat) (Option.none : Option Jvm.ClassFile.FieldType)).before args0 about1 = true := code_word (m := ⟨8, 8⟩) (meth := k8m8) (c := k8c8) (by decide +kernel) rfl rfl rfl (by decide +kernel)
set_option maxRecDepth 65536 in
theorem w_c9 : (Jvm.Cond.code ({ cls := "jdk/internal/util/Preconditions", name := "checkIndex", desc := "(IILjava/util/function/BiFunction;)I" } : Jvm.MethodName) jdk_41_method_11_code (3 : Nat) (Option.some Jvm.ClassFile.FieldType.int)).before args0 about1 = true := code_word (m := ⟨10, 1⟩) (meth := k10m1) (c := k10c1) (by decide +kernel) rfl rfl rfl (by decide +kernel)
set_option maxRecDepth 65536 in
theorem w_c10 : (Jvm.Cond.code ({ cls := "java/lang/StringBuilder", name := "<init>", desc := "()V" } : Jvm.MethodName) jdk_67_method_1_code (1 : Nat) (Option.none : Option Jvm.ClassFile.FieldType)).before args0 about1 = true := code_word (m := ⟨13, 0⟩) (meth := k13m0) (c := k13c0) (by decide +kernel) rfl rfl rfl (by decide +kernel)
set_option maxRecDepth 65536 in
theorem w_c11 : (Jvm.Cond.code ({ cls := "java/lang/AbstractStringBuilder", name := "<init>", desc := "(I)V" } : Jvm.MethodName) jdk_68_method_2_code (2 : Nat) (Option.none : Option Jvm.ClassFile.FieldType)).before args0 about1 = true := code_word (m := ⟨12, 1⟩) (meth := k12m1) (c := k12c1) (by decide +kernel) rfl rfl rfl (by decide +kernel)
set_option maxRecDepth 65536 in
theorem w_c12 : (Jvm.Cond.code ({ cls := "java/lang/Object", name := "<init>", desc := "()V" } : Jvm.MethodName) object_method_1_code (1 : Nat) (Option.none : Option Jvm.ClassFile.FieldType)).before args0 about1 = true := code_word (m := ⟨0, 0⟩) (meth := k0m0) (c := k0c0) (by decide +kernel) rfl rfl rfl (by decide +kernel)
set_option maxRecDepth 65536 in
theorem w_c13 : (Jvm.Cond.code ({ cls := "java/lang/StringBuilder", name := "append", desc := "(Ljava/lang/String;)Ljava/lang/StringBuilder;" } : Jvm.MethodName) jdk_67_method_7_code (2 : Nat) (Option.some (Jvm.ClassFile.FieldType.object "java/lang/StringBuilder"))).before args0 about1 = true := code_word (m := ⟨13, 1⟩) (meth := k13m1) (c := k13c1) (by decide +kernel) rfl rfl rfl (by decide +kernel)
set_option maxRecDepth 65536 in
theorem w_c14 : (Jvm.Cond.code ({ cls := "java/lang/AbstractStringBuilder", name := "append", desc := "(Ljava/lang/String;)Ljava/lang/AbstractStringBuilder;" } : Jvm.MethodName) jdk_68_method_22_code (3 : Nat) (Option.some (Jvm.ClassFile.FieldType.object "java/lang/AbstractStringBuilder"))).before args0 about1 = true := code_word (m := ⟨12, 4⟩) (meth := k12m4) (c := k12c4) (by decide +kernel) rfl rfl rfl (by decide +kernel)
set_option maxRecDepth 65536 in
theorem w_c15 : (Jvm.Cond.code ({ cls := "java/lang/AbstractStringBuilder", name := "ensureCapacityInternal", desc := "(I)V" } : Jvm.MethodName) jdk_68_method_9_code (3 : Nat) (Option.none : Option Jvm.ClassFile.FieldType)).before args0 about1 = true := code_word (m := ⟨12, 3⟩) (meth := k12m3) (c := k12c3) (by decide +kernel) rfl rfl rfl (by decide +kernel)
set_option maxRecDepth 65536 in
theorem w_c16 : (Jvm.Cond.code ({ cls := "java/lang/AbstractStringBuilder", name := "putStringAt", desc := "(ILjava/lang/String;)V" } : Jvm.MethodName) jdk_68_method_73_code (3 : Nat) (Option.none : Option Jvm.ClassFile.FieldType)).before args0 about1 = true := code_word (m := ⟨12, 9⟩) (meth := k12m9) (c := k12c9) (by decide +kernel) rfl rfl rfl (by decide +kernel)
set_option maxRecDepth 65536 in
theorem w_c17 : (Jvm.Cond.code ({ cls := "java/lang/AbstractStringBuilder", name := "inflateIfNeededFor", desc := "(Ljava/lang/String;)V" } : Jvm.MethodName) jdk_68_method_71_code (2 : Nat) (Option.none : Option Jvm.ClassFile.FieldType)).before args0 about1 = true := code_word (m := ⟨12, 8⟩) (meth := k12m8) (c := k12c8) (by decide +kernel) rfl rfl rfl (by decide +kernel)
set_option maxRecDepth 65536 in
theorem w_c18 : (Jvm.Cond.code ({ cls := "java/lang/String", name := "getBytes", desc := "([BIB)V" } : Jvm.MethodName) jdk_42_method_147_code (4 : Nat) (Option.none : Option Jvm.ClassFile.FieldType)).before args0 about1 = true := code_word (m := ⟨8, 4⟩) (meth := k8m4) (c := k8c4) (by decide +kernel) rfl rfl rfl (by decide +kernel)
set_option maxRecDepth 65536 in
theorem w_c19 : (Jvm.Cond.code ({ cls := "java/lang/StringBuilder", name := "append", desc := "(I)Ljava/lang/StringBuilder;" } : Jvm.MethodName) jdk_67_method_15_code (2 : Nat) (Option.some (Jvm.ClassFile.FieldType.object "java/lang/StringBuilder"))).before args0 about1 = true := code_word (m := ⟨13, 2⟩) (meth := k13m2) (c := k13c2) (by decide +kernel) rfl rfl rfl (by decide +kernel)
set_option maxRecDepth 65536 in
theorem w_c20 : (Jvm.Cond.code ({ cls := "java/lang/AbstractStringBuilder", name := "append", desc := "(I)Ljava/lang/AbstractStringBuilder;" } : Jvm.MethodName) jdk_68_method_32_code (4 : Nat) (Option.some (Jvm.ClassFile.FieldType.object "java/lang/AbstractStringBuilder"))).before args0 about1 = true := code_word (m := ⟨12, 5⟩) (meth := k12m5) (c := k12c5) (by decide +kernel) rfl rfl rfl (by decide +kernel)
set_option maxRecDepth 65536 in
theorem w_c21 : (Jvm.Cond.code ({ cls := "java/lang/Integer", name := "stringSize", desc := "(I)I" } : Jvm.MethodName) jdk_33_method_13_code (4 : Nat) (Option.some Jvm.ClassFile.FieldType.int)).before args0 about1 = true := code_word (m := ⟨16, 1⟩) (meth := k16m1) (c := k16c1) (by decide +kernel) rfl rfl rfl (by decide +kernel)
set_option maxRecDepth 65536 in
theorem w_c22 : (Jvm.Cond.code ({ cls := "java/lang/AbstractStringBuilder", name := "isLatin1", desc := "()Z" } : Jvm.MethodName) jdk_68_method_68_code (1 : Nat) (Option.some Jvm.ClassFile.FieldType.boolean)).before args0 about1 = true := code_word (m := ⟨12, 7⟩) (meth := k12m7) (c := k12c7) (by decide +kernel) rfl rfl rfl (by decide +kernel)
set_option maxRecDepth 65536 in
theorem w_c23 : (Jvm.Cond.code ({ cls := "java/lang/Integer", name := "getChars", desc := "(II[B)I" } : Jvm.MethodName) jdk_33_method_12_code (7 : Nat) (Option.some Jvm.ClassFile.FieldType.int)).before args0 about1 = true := code_word (m := ⟨16, 0⟩) (meth := k16m0) (c := k16c0) (by decide +kernel) rfl rfl rfl (by decide +kernel)
set_option maxRecDepth 65536 in
theorem w_c24 : (Jvm.Cond.code ({ cls := "java/lang/StringBuilder", name := "toString", desc := "()Ljava/lang/String;" } : Jvm.MethodName) jdk_67_method_42_code (1 : Nat) (Option.some (Jvm.ClassFile.FieldType.object "java/lang/String"))).before args0 about1 = true := code_word (m := ⟨13, 3⟩) (meth := k13m3) (c := k13c3) (by decide +kernel) rfl rfl rfl (by decide +kernel)
set_option maxRecDepth 65536 in
theorem w_c25 : (Jvm.Cond.code ({ cls := "java/lang/String", name := "<init>", desc := "(Ljava/lang/StringBuilder;)V" } : Jvm.MethodName) jdk_42_method_53_code (2 : Nat) (Option.none : Option Jvm.ClassFile.FieldType)).before args0 about1 = true := code_word (m := ⟨8, 1⟩) (meth := k8m1) (c := k8c1) (by decide +kernel) rfl rfl rfl (by decide +kernel)
set_option maxRecDepth 65536 in
theorem w_c26 : (Jvm.Cond.code ({ cls := "java/lang/String", name := "<init>", desc := "(Ljava/lang/AbstractStringBuilder;Ljava/lang/Void;)V" } : Jvm.MethodName) jdk_42_method_150_code (5 : Nat) (Option.none : Option Jvm.ClassFile.FieldType)).before args0 about1 = true := code_word (m := ⟨8, 5⟩) (meth := k8m5) (c := k8c5) (by decide +kernel) rfl rfl rfl (by decide +kernel)
set_option maxRecDepth 65536 in
theorem w_c27 : (Jvm.Cond.code ({ cls := "java/lang/AbstractStringBuilder", name := "getValue", desc := "()[B" } : Jvm.MethodName) jdk_68_method_64_code (1 : Nat) (Option.some (Jvm.ClassFile.FieldType.array Jvm.ClassFile.FieldType.byte))).before args0 about1 = true := code_word (m := ⟨12, 6⟩) (meth := k12m6) (c := k12c6) (by decide +kernel) rfl rfl rfl (by decide +kernel)
set_option maxRecDepth 65536 in
theorem w_c28 : (Jvm.Cond.code ({ cls := "java/lang/StringBuilder", name := "length", desc := "()I" } : Jvm.MethodName) jdk_67_method_93_code (1 : Nat) (Option.some Jvm.ClassFile.FieldType.int)).before args0 about1 = true := code_word (m := ⟨13, 4⟩) (meth := k13m4) (c := k13c4) (by decide +kernel) rfl rfl rfl (by decide +kernel)
set_option maxRecDepth 65536 in
theorem w_c29 : (Jvm.Cond.code ({ cls := "java/lang/AbstractStringBuilder", name := "length", desc := "()I" } : Jvm.MethodName) jdk_68_method_6_code (1 : Nat) (Option.some Jvm.ClassFile.FieldType.int)).before args0 about1 = true := code_word (m := ⟨12, 2⟩) (meth := k12m2) (c := k12c2) (by decide +kernel) rfl rfl rfl (by decide +kernel)
set_option maxRecDepth 65536 in
theorem w_c30 : (Jvm.Cond.code ({ cls := "java/util/Arrays", name := "copyOfRange", desc := "([BII)[B" } : Jvm.MethodName) jdk_65_method_132_code (3 : Nat) (Option.some (Jvm.ClassFile.FieldType.array Jvm.ClassFile.FieldType.byte))).before args0 about1 = true := code_word (m := ⟨17, 2⟩) (meth := k17m2) (c := k17c2) (by decide +kernel) rfl rfl rfl (by decide +kernel)
set_option maxRecDepth 65536 in
theorem w_c31 : (Jvm.Cond.code ({ cls := "java/util/Arrays", name := "copyOfRangeByte", desc := "([BII)[B" } : Jvm.MethodName) jdk_65_method_133_code (5 : Nat) (Option.some (Jvm.ClassFile.FieldType.array Jvm.ClassFile.FieldType.byte))).before args0 about1 = true := code_word (m := ⟨17, 3⟩) (meth := k17m3) (c := k17c3) (by decide +kernel) rfl rfl rfl (by decide +kernel)
set_option maxRecDepth 65536 in
theorem w_c32 : (Jvm.Cond.code ({ cls := "java/util/Arrays", name := "checkLength", desc := "(II)V" } : Jvm.MethodName) jdk_65_method_131_code (2 : Nat) (Option.none : Option Jvm.ClassFile.FieldType)).before args0 about1 = true := code_word (m := ⟨17, 1⟩) (meth := k17m1) (c := k17c1) (by decide +kernel) rfl rfl rfl (by decide +kernel)
set_option maxRecDepth 65536 in
theorem w_c33 : (Jvm.Cond.code ({ cls := "java/lang/Math", name := "min", desc := "(II)I" } : Jvm.MethodName) jdk_29_method_69_code (2 : Nat) (Option.some Jvm.ClassFile.FieldType.int)).before args0 about1 = true := code_word (m := ⟨18, 1⟩) (meth := k18m1) (c := k18c1) (by decide +kernel) rfl rfl rfl (by decide +kernel)
def codes1 : List Jvm.Cond := [Jvm.Cond.code x code maxLocals ret, Jvm.Cond.code ({ cls := "com/example/feeder/feeder/adapters/FrameFormat", name := "isConfiguration", desc := "(I)Z" } : Jvm.MethodName) prog_3_method_4_code (1 : Nat) (Option.some Jvm.ClassFile.FieldType.boolean), Jvm.Cond.code ({ cls := "com/example/feeder/feeder/adapters/FrameFormat", name := "typeName", desc := "(I)Ljava/lang/String;" } : Jvm.MethodName) prog_3_method_5_code (1 : Nat) (Option.some (Jvm.ClassFile.FieldType.object "java/lang/String")), Jvm.Cond.code ({ cls := "java/lang/String", name := "length", desc := "()I" } : Jvm.MethodName) jdk_42_method_54_code (1 : Nat) (Option.some Jvm.ClassFile.FieldType.int), Jvm.Cond.code ({ cls := "java/lang/String", name := "coder", desc := "()B" } : Jvm.MethodName) jdk_42_method_152_code (1 : Nat) (Option.some Jvm.ClassFile.FieldType.byte), Jvm.Cond.code ({ cls := "java/lang/String", name := "charAt", desc := "(I)C" } : Jvm.MethodName) jdk_42_method_56_code (2 : Nat) (Option.some Jvm.ClassFile.FieldType.char), Jvm.Cond.code ({ cls := "java/lang/String", name := "isLatin1", desc := "()Z" } : Jvm.MethodName) jdk_42_method_154_code (1 : Nat) (Option.some Jvm.ClassFile.FieldType.boolean), Jvm.Cond.code ({ cls := "java/lang/StringLatin1", name := "charAt", desc := "([BI)C" } : Jvm.MethodName) jdk_43_method_2_code (2 : Nat) (Option.some Jvm.ClassFile.FieldType.char), Jvm.Cond.code ({ cls := "java/lang/String", name := "checkIndex", desc := "(II)V" } : Jvm.MethodName) jdk_42_method_155_code (2 : Nat) (Option.none : Option Jvm.ClassFile.FieldType), Jvm.Cond.code ({ cls := "jdk/internal/util/Preconditions", name := "checkIndex", desc := "(IILjava/util/function/BiFunction;)I" } : Jvm.MethodName) jdk_41_method_11_code (3 : Nat) (Option.some Jvm.ClassFile.FieldType.int), Jvm.Cond.code ({ cls := "java/lang/StringBuilder", name := "<init>", desc := "()V" } : Jvm.MethodName) jdk_67_method_1_code (1 : Nat) (Option.none : Option Jvm.ClassFile.FieldType), Jvm.Cond.code ({ cls := "java/lang/AbstractStringBuilder", name := "<init>", desc := "(I)V" } : Jvm.MethodName) jdk_68_method_2_code (2 : Nat) (Option.none : Option Jvm.ClassFile.FieldType), Jvm.Cond.code ({ cls := "java/lang/Object", name := "<init>", desc := "()V" } : Jvm.MethodName) object_method_1_code (1 : Nat) (Option.none : Option Jvm.ClassFile.FieldType), Jvm.Cond.code ({ cls := "java/lang/StringBuilder", name := "append", desc := "(Ljava/lang/String;)Ljava/lang/StringBuilder;" } : Jvm.MethodName) jdk_67_method_7_code (2 : Nat) (Option.some (Jvm.ClassFile.FieldType.object "java/lang/StringBuilder")), Jvm.Cond.code ({ cls := "java/lang/AbstractStringBuilder", name := "append", desc := "(Ljava/lang/String;)Ljava/lang/AbstractStringBuilder;" } : Jvm.MethodName) jdk_68_method_22_code (3 : Nat) (Option.some (Jvm.ClassFile.FieldType.object "java/lang/AbstractStringBuilder")), Jvm.Cond.code ({ cls := "java/lang/AbstractStringBuilder", name := "ensureCapacityInternal", desc := "(I)V" } : Jvm.MethodName) jdk_68_method_9_code (3 : Nat) (Option.none : Option Jvm.ClassFile.FieldType), Jvm.Cond.code ({ cls := "java/lang/AbstractStringBuilder", name := "putStringAt", desc := "(ILjava/lang/String;)V" } : Jvm.MethodName) jdk_68_method_73_code (3 : Nat) (Option.none : Option Jvm.ClassFile.FieldType), Jvm.Cond.code ({ cls := "java/lang/AbstractStringBuilder", name := "inflateIfNeededFor", desc := "(Ljava/lang/String;)V" } : Jvm.MethodName) jdk_68_method_71_code (2 : Nat) (Option.none : Option Jvm.ClassFile.FieldType), Jvm.Cond.code ({ cls := "java/lang/String", name := "getBytes", desc := "([BIB)V" } : Jvm.MethodName) jdk_42_method_147_code (4 : Nat) (Option.none : Option Jvm.ClassFile.FieldType), Jvm.Cond.code ({ cls := "java/lang/StringBuilder", name := "append", desc := "(I)Ljava/lang/StringBuilder;" } : Jvm.MethodName) jdk_67_method_15_code (2 : Nat) (Option.some (Jvm.ClassFile.FieldType.object "java/lang/StringBuilder")), Jvm.Cond.code ({ cls := "java/lang/AbstractStringBuilder", name := "append", desc := "(I)Ljava/lang/AbstractStringBuilder;" } : Jvm.MethodName) jdk_68_method_32_code (4 : Nat) (Option.some (Jvm.ClassFile.FieldType.object "java/lang/AbstractStringBuilder")), Jvm.Cond.code ({ cls := "java/lang/Integer", name := "stringSize", desc := "(I)I" } : Jvm.MethodName) jdk_33_method_13_code (4 : Nat) (Option.some Jvm.ClassFile.FieldType.int), Jvm.Cond.code ({ cls := "java/lang/AbstractStringBuilder", name := "isLatin1", desc := "()Z" } : Jvm.MethodName) jdk_68_method_68_code (1 : Nat) (Option.some Jvm.ClassFile.FieldType.boolean), Jvm.Cond.code ({ cls := "java/lang/Integer", name := "getChars", desc := "(II[B)I" } : Jvm.MethodName) jdk_33_method_12_code (7 : Nat) (Option.some Jvm.ClassFile.FieldType.int), Jvm.Cond.code ({ cls := "java/lang/StringBuilder", name := "toString", desc := "()Ljava/lang/String;" } : Jvm.MethodName) jdk_67_method_42_code (1 : Nat) (Option.some (Jvm.ClassFile.FieldType.object "java/lang/String")), Jvm.Cond.code ({ cls := "java/lang/String", name := "<init>", desc := "(Ljava/lang/StringBuilder;)V" } : Jvm.MethodName) jdk_42_method_53_code (2 : Nat) (Option.none : Option Jvm.ClassFile.FieldType), Jvm.Cond.code ({ cls := "java/lang/String", name := "<init>", desc := "(Ljava/lang/AbstractStringBuilder;Ljava/lang/Void;)V" } : Jvm.MethodName) jdk_42_method_150_code (5 : Nat) (Option.none : Option Jvm.ClassFile.FieldType), Jvm.Cond.code ({ cls := "java/lang/AbstractStringBuilder", name := "getValue", desc := "()[B" } : Jvm.MethodName) jdk_68_method_64_code (1 : Nat) (Option.some (Jvm.ClassFile.FieldType.array Jvm.ClassFile.FieldType.byte)), Jvm.Cond.code ({ cls := "java/lang/StringBuilder", name := "length", desc := "()I" } : Jvm.MethodName) jdk_67_method_93_code (1 : Nat) (Option.some Jvm.ClassFile.FieldType.int), Jvm.Cond.code ({ cls := "java/lang/AbstractStringBuilder", name := "length", desc := "()I" } : Jvm.MethodName) jdk_68_method_6_code (1 : Nat) (Option.some Jvm.ClassFile.FieldType.int), Jvm.Cond.code ({ cls := "java/util/Arrays", name := "copyOfRange", desc := "([BII)[B" } : Jvm.MethodName) jdk_65_method_132_code (3 : Nat) (Option.some (Jvm.ClassFile.FieldType.array Jvm.ClassFile.FieldType.byte)), Jvm.Cond.code ({ cls := "java/util/Arrays", name := "copyOfRangeByte", desc := "([BII)[B" } : Jvm.MethodName) jdk_65_method_133_code (5 : Nat) (Option.some (Jvm.ClassFile.FieldType.array Jvm.ClassFile.FieldType.byte)), Jvm.Cond.code ({ cls := "java/util/Arrays", name := "checkLength", desc := "(II)V" } : Jvm.MethodName) jdk_65_method_131_code (2 : Nat) (Option.none : Option Jvm.ClassFile.FieldType), Jvm.Cond.code ({ cls := "java/lang/Math", name := "min", desc := "(II)I" } : Jvm.MethodName) jdk_29_method_69_code (2 : Nat) (Option.some Jvm.ClassFile.FieldType.int)]
set_option maxRecDepth 65536 in
theorem codes_eq : words1.filter isCode = codes1 := rfl
theorem w_codes : ∀ c ∈ words1.filter isCode, c.before args0 about1 = true := by
  rw [codes_eq]
  intro c hc
  simp only [codes1, List.mem_cons, List.not_mem_nil, or_false] at hc
  rcases hc with rfl | rfl | rfl | rfl | rfl | rfl | rfl | rfl | rfl | rfl | rfl | rfl | rfl | rfl | rfl | rfl | rfl | rfl | rfl | rfl | rfl | rfl | rfl | rfl | rfl | rfl | rfl | rfl | rfl | rfl | rfl | rfl | rfl | rfl
  · exact w_c0
  · exact w_c1
  · exact w_c2
  · exact w_c3
  · exact w_c4
  · exact w_c5
  · exact w_c6
  · exact w_c7
  · exact w_c8
  · exact w_c9
  · exact w_c10
  · exact w_c11
  · exact w_c12
  · exact w_c13
  · exact w_c14
  · exact w_c15
  · exact w_c16
  · exact w_c17
  · exact w_c18
  · exact w_c19
  · exact w_c20
  · exact w_c21
  · exact w_c22
  · exact w_c23
  · exact w_c24
  · exact w_c25
  · exact w_c26
  · exact w_c27
  · exact w_c28
  · exact w_c29
  · exact w_c30
  · exact w_c31
  · exact w_c32
  · exact w_c33
set_option maxRecDepth 65536 in
theorem w_t1 : (words1.take 24).all (fun c => isCode c || c.before args0 about1) = true := by decide +kernel
set_option maxRecDepth 65536 in
theorem w_t2 : ((words1.drop 24).take 24).all (fun c => isCode c || c.before args0 about1) = true := by decide +kernel
set_option maxRecDepth 65536 in
theorem w_t3 : (((words1.drop 24).drop 24).take 24).all (fun c => isCode c || c.before args0 about1) = true := by decide +kernel
set_option maxRecDepth 65536 in
theorem w_t4 : ((((words1.drop 24).drop 24).drop 24).take 24).all (fun c => isCode c || c.before args0 about1) = true := by decide +kernel
set_option maxRecDepth 65536 in
theorem w_t5 : (((((words1.drop 24).drop 24).drop 24).drop 24).take 24).all (fun c => isCode c || c.before args0 about1) = true := by decide +kernel
set_option maxRecDepth 65536 in
theorem w_t6 : ((((((words1.drop 24).drop 24).drop 24).drop 24).drop 24).take 24).all (fun c => isCode c || c.before args0 about1) = true := by decide +kernel
set_option maxRecDepth 65536 in
theorem w_t7 : (((((((words1.drop 24).drop 24).drop 24).drop 24).drop 24).drop 24).take 24).all (fun c => isCode c || c.before args0 about1) = true := by decide +kernel
set_option maxRecDepth 65536 in
theorem w_t8 : (((((((words1.drop 24).drop 24).drop 24).drop 24).drop 24).drop 24).drop 24).all (fun c => isCode c || c.before args0 about1) = true := by decide +kernel
theorem w_tables : (allAtoms (Jvm.Cond.code x code maxLocals ret :: tables_1)).before args0 about1 = true := by
  rw [allAtoms_all]
  show words1.all (fun c => c.before args0 about1) = true
  refine all_split ?_ w_codes
  rw [← List.take_append_drop 24 words1, List.all_append, w_t1, ← List.take_append_drop 24 (words1.drop 24), List.all_append, w_t2, ← List.take_append_drop 24 ((words1.drop 24).drop 24), List.all_append, w_t3, ← List.take_append_drop 24 (((words1.drop 24).drop 24).drop 24), List.all_append, w_t4, ← List.take_append_drop 24 ((((words1.drop 24).drop 24).drop 24).drop 24), List.all_append, w_t5, ← List.take_append_drop 24 (((((words1.drop 24).drop 24).drop 24).drop 24).drop 24), List.all_append, w_t6, ← List.take_append_drop 24 ((((((words1.drop 24).drop 24).drop 24).drop 24).drop 24).drop 24), List.all_append, w_t7, w_t8]
  rfl
set_option maxRecDepth 65536 in
theorem w_rest : rest_1_c.before args0 about1 = true := by decide +kernel
set_option maxRecDepth 65536 in
theorem w_case : (Jvm.Cond.and given_1 narrow_1).before args0 about1 = true := by decide +kernel
set_option maxRecDepth 65536 in
theorem w_consts : constsHeld consts_1 about1 := Jvm.Lit.constsHeldB_iff.mp (by decide +kernel)
theorem w_applies : (headSpec (Jvm.Cond.code x code maxLocals ret :: tables_1) room_1).applies x e0.platform about1 = true :=
  (Spec.applies_iff w_frames).mpr ⟨w_running, w_runnable, w_alone, w_named, w_hears, w_ripe, w_room, w_tables⟩
theorem atStart : AtStart classFile x code maxLocals ret World_1 tables_1 room_1 Calls_1 rest_1 Pre_1 launch0 p0 e0 about1 theMethod args0 below0 :=
  ⟨lists_1, trivial, launch0.admits_env _ _ _, launch0.least_env, fairChoices_fair.cas, fairChoices_fair.clock, w_frames, w_args, w_heap, w_applies, ⟨w_consts, trivial⟩, w_rest, w_case⟩
end start1
theorem witness_1 : WitnessClaimed_1 := ⟨start1.p0, start1.e0, start1.about1, start1.theMethod, start1.args0, start1.below0, start1.atStart⟩
end Jvm.Pilot.@@N@@
