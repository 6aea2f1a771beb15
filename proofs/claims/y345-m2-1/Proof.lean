import JvmDerived
import JvmDerived.Pilot.@@N@@Statement
import JvmDerived.Pilot.@@N@@Code
set_option linter.unusedVariables false
set_option linter.unusedSimpArgs false
set_option maxRecDepth 65536
set_option maxHeartbeats 40000000
namespace Jvm.Pilot.@@N@@
open Jvm Jvm.ClassFile Sem Op Lib Jvm.Free Jvm.Stand Jvm.LawKit Jvm.RoadKit Bundle Jvm.Pilot.@@N@@.Jvm.D
theorem ja {α β : Sort _} {A B : α → Prop} {P : α → β → Prop} (k : ∀ t, A t → B t) (h : ∃ t o, A t ∧ P t o) : ∃ t o, B t ∧ P t o := by
 obtain ⟨t, o, h1, h2⟩ := h
 exact ⟨t, o, k t h1, h2⟩
theorem jcV {α β : Sort _} {A : α → Prop} {P : α → β → Prop} (h : ∀ P' : α → β → Prop, (∀ t o, P t o → P' t o) → ∃ t o, A t ∧ P' t o) : ∃ t o, A t ∧ P t o := h P fun _ _ q => q
theorem jjx {v : Value} (h : v.isRef = true) : v.category = 1 := by rcases ref_cases h with rfl | ⟨_, rfl⟩ <;> rfl
theorem jlr {v : Value} (h : v.isRef = true) : Slot.val v = .unset ∨ ∃ w, Slot.val v = .val w ∧ w.category = 1 := Or.inr ⟨v, rfl, jjx h⟩
theorem jlQ {C : String} {w : Value} (h : w.isRef = true) : narrow (.object C) w = w := by rcases ref_cases h with rfl | ⟨_, rfl⟩ <;> rfl
abbrev oW (p : Program) (e : Env) (below : List Frame) (T : State) (g : JFrame) : State → Prop := Steps p.tables e below (T.setTop g)
abbrev oi (n : Int32) : Slot := .val (.int n)
abbrev oj (n : Int64) : Slot := .val (.long n)
abbrev od (n : UInt64) : Slot := .val (.double n)
abbrev oR (n : Addr) : Slot := .val (.ref n)
theorem jbz {p : Program} {l : Launch} {e : Env} {R : Room} {s : State} {m : MethodId} {args : Array Value} {below : List Frame} {meth : Method} {c : Code} {T : State} {locs : List Loc} {cells slots : Nat} {Z : State} {h : Heap} {a : Addr} {k : ClassId} {z : Int32} {vs : List Value} {dv : Value} (X : Stand p l e R s m args below meth c T locs cells slots) (hx : p.tables.exec = Jvm.exec) (hZ : Z.Warmed39 s.vm) (eT : T.heap = h) (F : Arv Z h a k .int z vs dv) {j : Int32} {v : Value} (hb : ¬ j < 0 ∧ j < z) (hv : vs.getD j.toNatClampNeg dv = v) {g : JFrame} (hg : g.method = m) {rest : List Value} (hs : g.stack = .int j :: .ref a :: rest) (hd : decode c.code g.pc = .ok (.iaload, 1)) (target : State)
  (hr : Steps p.tables e below (T.setTop { g with pc := g.pc + 1, stack := v :: rest }) target) : Steps p.tables e below (T.setTop g) target := by
 obtain ⟨cl, A, -, S, -, H, -⟩ := F
 have hi := inb_of S hb
 exact X.iaload hx (by rw [eT]; exact A.1) (State.isArrayOf_alike hZ.alike A.2.1) A.2.2 hi (H.at hi hv) hg hs hd target hr
theorem jM {p : Program} {l : Launch} {e : Env} {R : Room} {s : State} {m : MethodId} {args : Array Value} {below : List Frame} {meth : Method} {c : Code} {T : State} {locs : List Loc} {cells slots : Nat} {Z : State} {h : Heap} {a : Addr} {k : ClassId} {z : Int32} {vs : List Value} {dv : Value} {ty : FieldType} (X : Stand p l e R s m args below meth c T locs cells slots) (hx : p.tables.exec = Jvm.exec) (hZ : Z.Warmed39 s.vm) (eT : T.heap = h) (F : Arv Z h a k ty z vs dv) {g : JFrame} (hg : g.method = m) {rest : List Value} (hs : g.stack = .ref a :: rest) (hd : decode c.code g.pc = .ok (.arraylength, 1)) (target : State)
  (hr : Steps p.tables e below (T.setTop { g with pc := g.pc + 1, stack := .int z :: rest }) target) : Steps p.tables e below (T.setTop g) target := by
 obtain ⟨cl, A, -, S, N, -, -⟩ := F
 exact X.arraylength hx (by rw [eT]; exact A.1) (State.isArrayOf_alike hZ.alike A.2.1) hg hs hd target (by rw [len_of S N]; exact hr)
theorem jeg {p : Program} {l : Launch} {e : Env} {R : Room} {s : State} {m : MethodId} {args : Array Value} {below : List Frame} {meth : Method} {c : Code} {T : State} {locs : List Loc} {cells slots : Nat} (X : Stand p l e R s m args below meth c T locs cells slots) (hexec : p.tables.exec = Jvm.exec) {own C : String} {index : Nat} {y z w : MethodName} {bytes : ByteArray} {maxL : Nat} {ret : Option FieldType}
  (hown : s.vm.findClass own = some m.cls) (hlink : (Cond.methodLink own index y).before args s = true) (hinst : (Cond.instanceMethod y).before args s = true) (hsel : (Cond.selects C z w).before args s = true) (hwy : w.cls = y.cls)
  (hpriv : s.PrivateAt y) (hcode : (Cond.code y bytes maxL ret).before args s = true) (hy : y.cls ≠ "java/lang/invoke/MethodHandle" ∧ y.cls ≠ "java/lang/invoke/VarHandle")
  {W : Nat} {Pre : Free.Pt → Array Value → Prop} {Post : Free.Pt → Array Value → Option Value → Free.Pt → Prop} (hK : Free.Back l R p e below s args y 3 W Pre Post)
  {g : JFrame} (hg : g.method = m) (hsize : g.locals.size = c.maxLocals) {s₀ : State} (hcome : Steps p.tables e below s₀ (T.setTop g)) {a : Addr} {cell : Cell} (hcell : T.heap[a]? = some cell) (hobj : ∀ q, cell.vm ≠ .statics q)
  {argsL rest : List Value} (hlen : ∀ sig, parseMethodDescriptor y.desc = some sig → argsL.length = sig.parameters.length)
  (hstack : g.stack = argsL.reverse ++ .ref a :: rest) (hW : 2 * g.monitorRoom + (rest.map fun v => v.category).sum ≤ W) (hdg : decode c.code g.pc = .ok (.invokevirtual index, 3))
  (hpre : ∀ vm₁, s.WarmedH vm₁ → Pre ⟨T.setVm vm₁, locs, cells, slots⟩ (.ref a :: argsL).toArray) :
  ∃ (v : Option Value) (vm₁ : Vm) (B : Free.Pt), s.WarmedH vm₁ ∧ Stand p l e R s m args below meth c B.U B.locs B.cells B.slots ∧ Post ⟨T.setVm vm₁, locs, cells, slots⟩ (.ref a :: argsL).toArray v B ∧
   Steps p.tables e below s₀ (B.U.setTop { g with pc := g.pc + 3, stack := v.toList ++ rest }) := by
 obtain ⟨mk, methM, hnamed, hmethM, hstM, habM⟩ := Cond.instanceMethod_spec hinst
 obtain ⟨methM', cM, hmethM', -, -, -, -, -, -, hsigM⟩ := Cond.code_spec hnamed hcode
 cases hmethM.symm.trans hmethM'
 obtain ⟨c2, r2, m2, -, -, q3, -, kP, hkP, hkPi⟩ := Cond.selects_spec hsel
 have e2 : m2.cls = mk.cls := by
  have f1 := findClass_of_methodNamed q3
  have f2 := findClass_of_methodNamed hnamed
  rw [hwy] at f1
  exact Option.some.inj (f1.symm.trans f2)
 rw [e2] at hkP
 have hselP : selectMethod e.platform s.vm cell.cls mk = .method mk := selectMethod_private hmethM (hpriv mk methM hnamed hmethM)
 obtain ⟨vm₁, X₁, hstep₁⟩ := X.invokevirtual hexec hown hlink hnamed hmethM hstM hkP hkPi hy (a := a) (cell := cell) hcell hobj hselP hmethM habM hkP hkPi (g := g) hg (argsL := argsL) (rest := rest) (hlen _ hsigM) hstack hdg
 have hW₁ : s.WarmedH vm₁ := X₁.warmed
 obtain ⟨v, B, X', hpost, hsteps⟩ := hK m meth c ⟨T.setVm vm₁, locs, cells, slots⟩ { g with stack := rest } (.invokevirtual index) mk (.ref a :: argsL).toArray X₁ hg hsize hdg hW (X₁.named hnamed) (hpre vm₁ hW₁)
 exact ⟨v, vm₁, B, hW₁, X', hpost, (hcome.trans (hstep₁ _ fun acts => by rw [doInvoke_state]; exact Steps.refl _)).trans hsteps⟩
theorem jlM {Z : State} {h h' : Heap} {C n d : String} {v : Value} {b : Addr} {k : ClassId} {ty : FieldType} {z : Int32} {vs : List Value} {dv : Value} (F : Sta Z h C n d v) (K : Keep h h' [b]) (A : Arv Z h b k ty z vs dv) : Sta Z h' C n d v := by
 obtain ⟨cf, i, kk, f, st, cell, h1, h2, h3, h4, h5, h6, h7⟩ := F
 obtain ⟨cl, A, -⟩ := A
 refine ⟨cf, i, kk, f, st, cell, h1, h2, h3, h4, K.2.1 st cell h5 (fun q => ?_), h6, h7⟩
 cases List.mem_singleton.mp q
 cases A.1.symm.trans h5
 have t := A.2.1.1
 cases hv : cell.vm <;> first | exact t _ hv | (rw [hv] at h6; cases h6)
theorem jlN {args : Array Value} {s : State} {C : String} {y z w : MethodName} (hinst : (Cond.instanceMethod y).before args s = true) (hsel : (Cond.selects C z w).before args s = true) (hwy : w.cls = y.cls) (hy : y.cls ≠ "java/lang/invoke/MethodHandle" ∧ y.cls ≠ "java/lang/invoke/VarHandle") : (Cond.sameMethod y.cls y.cls y.name y.desc).before args s = true := by
 obtain ⟨mk, methM, hnamed, hmethM, hstM, habM⟩ := Cond.instanceMethod_spec hinst
 obtain ⟨c2, r2, m2, -, -, q3, -, kP, hkP, hkPi⟩ := Cond.selects_spec hsel
 have f2 := findClass_of_methodNamed hnamed
 have e2 : m2.cls = mk.cls := by
  have f1 := findClass_of_methodNamed q3
  rw [hwy] at f1
  exact Option.some.inj (f1.symm.trans f2)
 rw [e2] at hkP
 have hf := State.methodFound?_of_named hnamed hy
 simp [Cond.before, Cond.holds, Cond.value, f2, hf, hnamed, hkP, hkPi]
theorem jkK {args : Array Value} {s : State} {C : String} {y z w : MethodName} (hsel : (Cond.selects C z w).before args s = true) (hwy : w.cls = y.cls) : NotFace s y := fun r0 h0 => by
 obtain ⟨c2, r2, m2, -, -, q3, -, kP, hkP, hkPi⟩ := Cond.selects_spec hsel
 have f1 := findClass_of_methodNamed q3
 have f2 := findClass_of_methodNamed h0
 rw [hwy] at f1
 have e := Option.some.inj (f1.symm.trans f2)
 rw [e] at hkP
 exact ⟨kP, hkP, hkPi⟩
theorem jC {Z : State} {h h' : Heap} {C n d : String} {v : Value} {ws : List Addr} (F : Sta Z h C n d v) (K : Keep h h' ws) (A : ∀ x ∈ ws, ∀ cell : Cell, h[x]? = some cell → cell.vm.isStatics = false) : Sta Z h' C n d v := by
 obtain ⟨cf, i, kk, f, st, cell, h1, h2, h3, h4, h5, h6, h7⟩ := F
 refine ⟨cf, i, kk, f, st, cell, h1, h2, h3, h4, K.2.1 st cell h5 (fun q => ?_), h6, h7⟩
 have t := A st q cell h5
 rw [h6] at t; cases t
theorem jaZ {Z : State} {h : Heap} {a : Addr} {C : String} (E : Exa Z h a C) : ∀ cell : Cell, h[a]? = some cell → cell.vm.isStatics = false := fun cell q => by
 obtain ⟨c1, k, h1, -, -, h4, -⟩ := E; cases h1.symm.trans q; exact h4
theorem jlR {Z : State} {h : Heap} {a : Addr} {k : ClassId} {ty : FieldType} {z : Int32} {vs : List Value} {d : Value} (A : Arv Z h a k ty z vs d) : ∀ cell : Cell, h[a]? = some cell → cell.vm.isStatics = false := fun cell q => by
 obtain ⟨cl, A1, -⟩ := A; cases A1.1.symm.trans q; exact A1.plain
theorem jlO {Z : State} {h h' : Heap} {a : Addr} {cl : Cell} {ty : FieldType} {z : Int32} {ws : List Addr} (F : Tab Z h a cl ty z) (K : Keep h h' ws) (q : a ∉ ws) : Tab Z h' a cl ty z := ⟨⟨K.2.1 _ _ F.1.1 q, F.1.2⟩, F.2⟩
theorem jlP {Z : State} {h h' : Heap} {a b : Addr} {cl : Cell} {ty : FieldType} {n : Int32} {sl : Nat} {v : Value} (F : Tab Z h a cl ty n) (W : Wr h h' b sl v) (q : a ≠ b) : Tab Z h' a cl ty n := ⟨F.1.other W q, F.2⟩
theorem jbA {p : Program} {l : Launch} {e : Env} {R : Room} {s : State} {m : MethodId} {args : Array Value} {below : List Frame} {meth : Method} {c : Code} {T : State} {locs : List Loc} {cells slots : Nat} {Z : State} {h : Heap} {a : Addr} {k : ClassId} {z : Int32} {vs : List Value} {dv : Value} {ty : String} (X : Stand p l e R s m args below meth c T locs cells slots) (hx : p.tables.exec = Jvm.exec) (hZ : Z.Warmed39 s.vm) (eT : T.heap = h) (F : Arv Z h a k (.object ty) z vs dv) {j : Int32} {v : Value} (hb : ¬ j < 0 ∧ j < z) (hv : vs.getD j.toNatClampNeg dv = v) {g : JFrame} (hg : g.method = m) {rest : List Value} (hs : g.stack = .int j :: .ref a :: rest) (hd : decode c.code g.pc = .ok (.aaload, 1)) (target : State)
  (hr : Steps p.tables e below (T.setTop { g with pc := g.pc + 1, stack := v :: rest }) target) : Steps p.tables e below (T.setTop g) target := by
 obtain ⟨cl, A, -, S, -, H, -⟩ := F
 have hi := inb_of S hb
 exact X.aaload hx (by rw [eT]; exact A.1) (State.isArrayOf_alike hZ.alike A.2.1) rfl A.2.2 hi (H.at hi hv) hg hs hd target hr
theorem jkX {p : Program} {l : Launch} {e : Env} {R : Room} {s : State} {m : MethodId} {args : Array Value} {below : List Frame} {meth : Method} {c : Code} {T : State} {locs : List Loc} {cells slots : Nat} {Z : State} {h : Heap} {a : Addr} {k : ClassId} {z : Int32} {vs : List Value} {dv : Value} (X : Stand p l e R s m args below meth c T locs cells slots) (hx : p.tables.exec = Jvm.exec) (hZ : Z.Warmed39 s.vm) (eT : T.heap = h) (F : Arv Z h a k .long z vs dv) {j : Int32} {v : Value} (hb : ¬ j < 0 ∧ j < z) (hv : vs.getD j.toNatClampNeg dv = v) {g : JFrame} (hg : g.method = m) {rest : List Value} (hs : g.stack = .int j :: .ref a :: rest) (hd : decode c.code g.pc = .ok (.laload, 1)) (target : State)
  (hr : Steps p.tables e below (T.setTop { g with pc := g.pc + 1, stack := v :: rest }) target) : Steps p.tables e below (T.setTop g) target := by
 obtain ⟨cl, A, -, S, -, H, -⟩ := F
 have hi := inb_of S hb
 exact X.laload hx (by rw [eT]; exact A.1) (State.isArrayOf_alike hZ.alike A.2.1) A.2.2 hi (H.at hi hv) hg hs hd target hr
theorem jcr {Z : State} {h : Heap} {b y : Addr} {k : ClassId} {ty : FieldType} {z : Int32} {vs : List Value} {d : Value} {C : String} (B : Arv Z h b k ty z vs d) (O : Ovr Z k C) (I : Ins Z h y C true) : Sto Z h b (.ref y) := by
 obtain ⟨cl, A, q, -⟩ := B; exact Sto.ofV A q O I
theorem jbw {Z : State} {a0 : Array Value} {O K : String} {n : Nat} (w : (Cond.noSuperclass O).before a0 Z = true) (wk : (Cond.instantiable K n).before a0 Z = true) (hn : O ≠ K) : NS Z O K := by
 obtain ⟨c, k, h1, h2, h3, -, -⟩ := Cond.noSuperclass_spec w
 obtain ⟨t, kt, g1, -⟩ := Cond.instantiable_spec wk
 have ne := ids_ne h1 g1 hn
 refine ⟨c, t, h1, g1, fun fuel => ?_⟩
 cases fuel with
 | zero => rfl
 | succ f => simp [Vm.isSubclassAux, ne, h2, h3]
theorem jcs {Z : State} {a0 : Array Value} {C S K : String} {n : Nat} (w : (Cond.superclass C S).before a0 Z = true) (wk : (Cond.instantiable K n).before a0 Z = true) (m : NS Z C K) (hn : C ≠ K) : ∃ c t, Z.vm.findClass C = some c ∧ Z.vm.findClass K = some t ∧ Z.vm.assignable c t = false := by
 obtain ⟨c, t, h0, g0, n3⟩ := m
 obtain ⟨p, k, kp, h1, h2, h3, h4, h5, -, h7⟩ := Cond.superclass_spec h0 w
 obtain ⟨t', k', g1, g2, g5, g7, -⟩ := Cond.instantiable_spec wk
 cases g0.symm.trans g1
 have g7' : k'.isInterface = false := by
  cases hq : k'.isInterface with
  | false => rfl
  | true => rw [hq] at g7; simp at g7
 have ne := ids_ne h0 g0 hn
 refine ⟨c, t, h0, g0, ?_⟩
 show Z.vm.assignableAux (255 + 1) c t = false
 simp [Vm.assignableAux, ne, h2, g2, h5, g5, g7', Vm.isSubclass, n3]
theorem jcK {p : Program} {l : Launch} {e : Env} {R : Room} {s : State} {m : MethodId} {args : Array Value} {below : List Frame} {meth : Method} {c : Code} {T : State} {locs : List Loc} {cells slots : Nat} {Z : State} {h : Heap} {a0 : Array Value} {own C : String} {index : Nat} {mr : Addr} (X : Stand p l e R s m args below meth c T locs cells slots) (hx : p.tables.exec = Jvm.exec) (hZ : Z.Warmed39 s.vm) (hown : s.vm.findClass own = some m.cls) (w : (Cond.classLink own index C).before a0 Z = true) (eT : T.heap = h) (M : Mir Z C mr) {g : JFrame} (hg : g.method = m) (hd : decode c.code g.pc = .ok (.ldc index, 2)) :
  ∃ T', Stand p l e R s m args below meth c T' locs cells slots ∧ T'.heap = h ∧ ∀ target, Steps p.tables e below (T'.setTop { g with pc := g.pc + 2, stack := .ref mr :: g.stack }) target → Steps p.tables e below (T.setTop g) target := by
 obtain ⟨cc, kc, m1, m2, m3, -⟩ := M
 obtain ⟨k', q, ek⟩ := hZ.alike.2.2 _ _ m2
 have f1 : s.vm.findClass C = some cc := by rw [hZ.alike.findClass]; exact m1
 have f3 : k'.mirror = some mr := by rw [ek]; exact m3
 have ev : (Term.mirror C).eval args s none [] s = some (.ref mr) := by simp [Term.eval, f1, q, f3]
 obtain ⟨vm', X', st⟩ := X.ldcMirror hx hown (mv hZ w) ev hg hd
 exact ⟨_, X', eT, st⟩
theorem jeh {p : Program} {l : Launch} {e : Env} {R : Room} {s : State} {m : MethodId} {args : Array Value} {below : List Frame} {meth : Method} {c : Code} {T : State} {locs : List Loc} {cells slots : Nat} {Z : State} {h : Heap} {a0 : Array Value} {own C : String} {index count : Nat} {xi : MethodName} {a mr : Addr} (X : Stand p l e R s m args below meth c T locs cells slots) (hx : p.tables.exec = Jvm.exec) (hZ : Z.Warmed39 s.vm) (hown : s.vm.findClass own = some m.cls)
  (w1 : (Cond.methodLink own index xi).before a0 Z = true) (w2 : (Cond.declares Jvm.Stand.gcN).before a0 Z = true) (w3 : (Cond.interfaceMethod xi.cls "java/lang/Object" xi.name xi.desc).before args s = true) (w4 : (Cond.selects C xi Jvm.Stand.gcN).before a0 Z = true) (w5 : (Cond.instanceMethod Jvm.Stand.gcN).before a0 Z = true) (w6 : (Cond.publicMethod Jvm.Stand.gcN).before a0 Z = true) (w7 : (Cond.unhidden C xi.name xi.desc).before a0 Z = true) (w8 : (Cond.castable C xi.cls).before a0 Z = true) (w9 : (Cond.native Jvm.Stand.gcN).before a0 Z = true)
  (hy : xi.cls ≠ "java/lang/invoke/MethodHandle" ∧ xi.cls ≠ "java/lang/invoke/VarHandle") (hxo : xi.cls ≠ "java/lang/Object") (hname : xi.name = "getClass") (hdesc : xi.desc = "()Ljava/lang/Class;") (eT : T.heap = h) (E : Exa Z h a C) (M : Mir Z C mr)
  {g : JFrame} (hg : g.method = m) (hsize : g.locals.size = c.maxLocals) {rest : List Value} (hs : g.stack = .ref a :: rest) (hd : decode c.code g.pc = .ok (.invokeinterface index count, 5)) (hf : 1 ≤ R.frames) {W : Nat} (hW : 2 * g.monitorRoom + (rest.map fun v => v.category).sum ≤ W) (hl : W + (nativeFrameWords "java/lang/Object" "getClass" 1 + 11) ≤ R.locals) :
  ∃ T', Stand p l e R s m args below meth c T' locs cells slots ∧ T'.heap = h ∧ ∀ target, Steps p.tables e below (T'.setTop { g with pc := g.pc + 5, stack := .ref mr :: rest }) target → Steps p.tables e below (T.setTop g) target := by
 obtain ⟨cB, kB, i1, i2, i3⟩ := isOf hZ eT E
 obtain ⟨cc, kc, m1, m2, m3, -⟩ := M
 have i1' := i1
 rw [hZ.alike.findClass] at i1'
 cases i1'.symm.trans m1
 obtain ⟨k', q, ek⟩ := hZ.alike.2.2 _ _ m2
 obtain ⟨vm', X', st⟩ := X.getClassOfI hx hown (mvT hZ w1) (mvT hZ w2) w3 (mvT hZ w4) (mvT hZ w5) (mvT hZ w6) (mvT hZ w7) (mvT hZ w8) (mvT hZ w9) hy hxo hname hdesc i1 q i3 (by rw [ek]; exact m3) hg hsize hs hd hf (by omega)
 exact ⟨_, X', eT, st⟩
abbrev oH (a0 : Array Value) (Z : State) : Prop := ∀ d ∈ tables_1, d.before a0 Z = true
def oDec (b : ByteArray) (L : List (Nat × Instr × Nat)) : Prop := ∀ x ∈ L, decode b x.1 = .ok (x.2.1, x.2.2)
instance {b : ByteArray} {L : List (Nat × Instr × Nat)} : Decidable (oDec b L) := inferInstanceAs (Decidable (∀ x ∈ L, decode b x.1 = .ok (x.2.1, x.2.2)))
theorem oDec.at {b : ByteArray} {L : List (Nat × Instr × Nat)} (h : oDec b L) (i : Nat) {p : Nat} {c : Instr} {n : Nat} (q : L[i]? = some (p, c, n)) : decode b p = .ok (c, n) := (h (p, c, n) (List.mem_of_getElem? q) :)
theorem oDec.hb {code b : ByteArray} {L : List (Nat × Instr × Nat)} (h : oDec b L) (hby : code = b) (i : Nat) {p : Nat} {c : Instr} {n : Nat} (q : L[i]? = some (p, c, n)) : decode code p = .ok (c, n) := by subst hby; exact h.at i q
theorem jg {Z : State} {a0 : Array Value} {C O n d O' n' d' : String} (L : Laid Z a0 C O n d) (L' : Laid Z a0 C O' n' d') (hn : n ≠ n') (ht : (parseFieldDescriptor d).isSome = true) (ht' : (parseFieldDescriptor d').isSome = true) : Jvm.RoadKit.slotOf Z O n d ≠ Jvm.RoadKit.slotOf Z O' n' d' := by
 obtain ⟨t, e⟩ := Option.isSome_iff_exists.mp ht
 obtain ⟨t', e'⟩ := Option.isSome_iff_exists.mp ht'
 exact slot_ne L L' hn e e'
abbrev jc := Jvm.RoadKit.slotOf
abbrev ou : Slot := .unset
theorem ow {a0 : Array Value} {Z : State} (hw : ∀ d ∈ tables_1, d.before a0 Z = true) (i : Nat) {d : Jvm.Cond} (h : tables_1[i]? = some d) : d.before a0 Z = true := hw _ (List.mem_of_getElem? h)
abbrev ji (l : Launch) (Z : State) (y : MethodName) (bytes : ByteArray) (ml : Nat) (ret : Option FieldType) (ws : List Jvm.Cond) (R : Room) (A : Array Value) (h0 : Heap) (Q : Option Value → Heap → List Loc → Prop) : Prop := MetFree l y (head1 (Jvm.Cond.code y bytes ml ret :: ws) R) (fun a U => a = A ∧ Z.Warmed39 U.vm ∧ U.heap = h0) (fun _ _ _ _ _ => True) (fun _ U o U' => ∃ v L, o = .returned v ∧ Q v U'.heap L ∧ FrameEnd U o U' L R.cells R.slots)
theorem jb {l : Launch} {Z : State} {y : MethodName} {bytes : ByteArray} {ml : Nat} {ret : Option FieldType} {ws : List Jvm.Cond} {R : Room} {A : Array Value} {h0 : Heap} {Q : Option Value → Heap → List Loc → Prop} {L0 : Array Slot} (hp : plainFor y = true) (hef : ∀ m, entryFrame m A ml = mkF m 0 L0 [])
  (K : ∀ (p : Program) (e : Env) (s : State) (m : MethodId) (below : List Frame) (meth : Method) (c : Code) (s₁ : State), BodyLoose p l y (head1 (Jvm.Cond.code y bytes ml ret :: ws) R) bytes ml ret e s m A below meth c s₁ → p.tables.exec = Jvm.exec → c.code = bytes → c.maxLocals = ml → s.vm.findClass y.cls = some m.cls → Z.Warmed39 s.vm → Stand p l e R s m A below meth c s₁ [] 0 0 → s₁.heap = h0 →
   ∀ Pf : State → Outcome → Prop, (∀ t o, (t.status = .running ∧ Ended t below o ∧ ∃ v L, o = .returned v ∧ Q v t.heap L ∧ FrameEnd s o t L R.cells R.slots) → Pf t o) → ∃ t o, Steps p.tables e below (s₁.setTop (mkF m 0 L0 [])) t ∧ Pf t o) : ji l Z y bytes ml ret ws R A h0 Q := by
 refine MetFree.of_bodySF hp hisR ?_
 intro p e s m args below meth c s₁ Bd hml0 hP _
 obtain ⟨rfl, hZ, hh⟩ := hP
 refine ja (fun t k => castTop (hef m) k) (jcV fun Pf hPf => ?_)
 exact K p e s m below meth c s₁ Bd Bd.exec Bd.bytes hml0 (findClass_of_methodNamed Bd.named) hZ (Stand.of_body Bd) (by rw [← hh, Bd.state]; rfl) Pf hPf
section Own
variable {p : Program} {l : Launch} {e : Env} {R : Room} {s : State} {m : MethodId} {args : Array Value} {below : List Frame} {meth : Method} {c : Code} {T : State} {locs : List Loc} {cells slots : Nat}
theorem jE {y : MethodName} {S : Spec} {b : ByteArray} {ml : Nat} {s₁ : State} {Q : Option Value → Heap → List Loc → Prop} {Pf : State → Outcome → Prop} (X : Stand p l e R s m args below meth c T locs cells slots) (hx : p.tables.exec = Jvm.exec) {t : FieldType} (Bd : BodyLoose p l y S b ml (some t) e s m args below meth c s₁) (hPf : ∀ t o, (t.status = .running ∧ Ended t below o ∧ ∃ v L, o = .returned v ∧ Q v t.heap L ∧ FrameEnd s o t L R.cells R.slots) → Pf t o) (hc : cells ≤ R.cells) (hs : slots ≤ R.slots) {pc : Nat} {Ls : Array Slot} {w : Value} {rest : List Value} (ht : t.isReference = true) (hw : w.isRef = true) (hn : narrow t w = w) (hd : decode c.code pc = .ok (.areturn, 1)) (hq : Q (some w) T.heap locs) : ∃ t o, oW p e below T (mkF m pc Ls (w :: rest)) t ∧ Pf t o := by
 obtain ⟨fs, hr, hrun, hended, hW, hsame⟩ := X.leave (v := some w) (fun h => by rw [Bd.returns] at h; cases h)
 exact ⟨_, _, retOut X hx Bd.returns hn (Or.inr (Or.inr (Or.inr (Or.inr ⟨rfl, ht, hw⟩)))) hd hr, hPf _ _ ⟨hrun, hended, _, _, rfl, hq, ⟨_, rfl⟩, hW, hsame.mono hc hs⟩⟩
theorem jaD {y : MethodName} {S : Spec} {b : ByteArray} {ml : Nat} {s₁ : State} {Q : Option Value → Heap → List Loc → Prop} {Pf : State → Outcome → Prop} (X : Stand p l e R s m args below meth c T locs cells slots) (hx : p.tables.exec = Jvm.exec) (Bd : BodyLoose p l y S b ml (some .int) e s m args below meth c s₁) (hPf : ∀ t o, (t.status = .running ∧ Ended t below o ∧ ∃ v L, o = .returned v ∧ Q v t.heap L ∧ FrameEnd s o t L R.cells R.slots) → Pf t o) (hc : cells ≤ R.cells) (hs : slots ≤ R.slots) {pc : Nat} {Ls : Array Slot} {w : Int32} {rest : List Value} (hd : decode c.code pc = .ok (.ireturn, 1)) (hq : Q (some (.int w)) T.heap locs) : ∃ t o, oW p e below T (mkF m pc Ls (.int w :: rest)) t ∧ Pf t o := by
 obtain ⟨fs, hr, hrun, hended, hW, hsame⟩ := X.leave (v := some (.int w)) (fun h => by rw [Bd.returns] at h; cases h)
 exact ⟨_, _, retOut X hx Bd.returns rfl (Or.inl ⟨rfl, Or.inl rfl, _, rfl⟩) hd hr, hPf _ _ ⟨hrun, hended, _, _, rfl, hq, ⟨_, rfl⟩, hW, hsame.mono hc hs⟩⟩
theorem jaw {y : MethodName} {S : Spec} {b : ByteArray} {ml : Nat} {s₁ : State} {Q : Option Value → Heap → List Loc → Prop} {Pf : State → Outcome → Prop} (X : Stand p l e R s m args below meth c T locs cells slots) (hx : p.tables.exec = Jvm.exec) {t : FieldType} (Bd : BodyLoose p l y S b ml (some t) e s m args below meth c s₁) (ht : t = .boolean ∨ t = .byte ∨ t = .char ∨ t = .short) (hPf : ∀ t o, (t.status = .running ∧ Ended t below o ∧ ∃ v L, o = .returned v ∧ Q v t.heap L ∧ FrameEnd s o t L R.cells R.slots) → Pf t o) (hc : cells ≤ R.cells) (hs : slots ≤ R.slots) {pc : Nat} {Ls : Array Slot} {w : Int32} {rest : List Value} (hd : decode c.code pc = .ok (.ireturn, 1)) (hq : Q (some (.int (nar t w))) T.heap locs) : ∃ t o, oW p e below T (mkF m pc Ls (.int w :: rest)) t ∧ Pf t o := by
 obtain ⟨fs, hr, hrun, hended, hW, hsame⟩ := X.leave (v := some (.int (nar t w))) (fun h => by rw [Bd.returns] at h; cases h)
 exact ⟨_, _, retN X hx Bd.returns ht hd hr, hPf _ _ ⟨hrun, hended, _, _, rfl, hq, ⟨_, rfl⟩, hW, hsame.mono hc hs⟩⟩
theorem jaa {y : MethodName} {S : Spec} {b : ByteArray} {ml : Nat} {s₁ : State} {Q : Option Value → Heap → List Loc → Prop} {Pf : State → Outcome → Prop} (X : Stand p l e R s m args below meth c T locs cells slots) (hx : p.tables.exec = Jvm.exec) (Bd : BodyLoose p l y S b ml none e s m args below meth c s₁) (hPf : ∀ t o, (t.status = .running ∧ Ended t below o ∧ ∃ v L, o = .returned v ∧ Q v t.heap L ∧ FrameEnd s o t L R.cells R.slots) → Pf t o) (hc : cells ≤ R.cells) (hs : slots ≤ R.slots) {pc : Nat} {Ls : Array Slot} (hd : decode c.code pc = .ok (.return_, 1)) (hq : Q none T.heap locs) : ∃ t o, oW p e below T (mkF m pc Ls []) t ∧ Pf t o := by
 obtain ⟨fs, hr, hrun, hended, hW, hsame⟩ := X.leave (v := none) (fun _ => rfl)
 exact ⟨_, _, X.returnOut hx Bd.returns hd hr, hPf _ _ ⟨hrun, hended, _, _, rfl, hq, ⟨_, rfl⟩, hW, hsame.mono hc hs⟩⟩
variable {Z : State} {h : Heap} {a0 : Array Value} {own C : String} {index count : Nat} {y x : MethodName} {bytes : ByteArray} {maxL : Nat} {ret : Option FieldType} {rm : Room} {as' : Array Value} {Q : Option Value → Heap → List Loc → Prop} {b : Addr}
theorem jH (X : Stand p l e R s m args below meth c T locs cells slots) (hx : p.tables.exec = Jvm.exec) (hZ : Z.Warmed39 s.vm) (hown : s.vm.findClass own = some m.cls) (w1 : (Cond.methodLink own index y).before a0 Z = true) (w2 : (Cond.static y).before a0 Z = true) (wc : (Cond.code y bytes maxL ret).before a0 Z = true) (wz : (Cond.initialized y.cls).before a0 Z = true) (hM : ji l Z y bytes maxL ret [] rm as' h Q) (eT : T.heap = h) (hy : y.cls ≠ "java/lang/invoke/MethodHandle" ∧ y.cls ≠ "java/lang/invoke/VarHandle")
  {g : JFrame} (hg : g.method = m) (hsize : g.locals.size = c.maxLocals) {argsL rest : List Value} (hA : argsL.toArray = as') (hlen : ∀ sig, parseMethodDescriptor y.desc = some sig → argsL.length = sig.parameters.length) (hstack : g.stack = argsL.reverse ++ rest) {W : Nat} (hW : 2 * g.monitorRoom + (rest.map fun v => v.category).sum ≤ W) (hdg : decode c.code g.pc = .ok (.invokestatic index, 3)) (hR : rm.frames + 1 ≤ R.frames ∧ W + (maxL + 11) + rm.locals ≤ R.locals ∧ cells + rm.cells ≤ R.cells ∧ slots + rm.slots ≤ R.slots) :
  ∃ v T' L', Stand p l e R s m args below meth c T' (locs ++ L') (cells + rm.cells) (slots + rm.slots) ∧ Q v T'.heap L' ∧ ∀ t, Steps p.tables e below (T'.setTop { g with pc := g.pc + 3, stack := v.toList ++ rest }) t → Steps p.tables e below (T.setTop g) t := by
 subst hA
 have hK : Jvm.Free.Back l R p e below s args y 3 W _ _ := backOf (W := W) hM hZ wc wz hR.1 hR.2.1
 obtain ⟨v, _, ⟨T', L', k', n'⟩, -, X', ⟨L, hQ, e1, e2, e3⟩, st⟩ := Jvm.LawKit.callS X hx hown (mvT hZ w1) (mvT hZ w2) (mvT hZ wz) (mvT hZ wc) hy hK hg hsize hlen hstack hW hdg (fun _ _ => ⟨rfl, eT, hR.2.2.1, hR.2.2.2⟩)
 dsimp only [Pt.U, Pt.locs, Pt.cells, Pt.slots] at X' e1 e2 e3 hQ st
 subst e1 e2 e3
 exact ⟨_, T', L, X', hQ, st⟩
theorem jaF (X : Stand p l e R s m args below meth c T locs cells slots) (hx : p.tables.exec = Jvm.exec) (hZ : Z.Warmed39 s.vm) (hown : s.vm.findClass own = some m.cls) (w1 : (Cond.methodLink own index y).before a0 Z = true) (w2 : (Cond.instanceMethod y).before a0 Z = true) (wc : (Cond.code y bytes maxL none).before a0 Z = true) (wz : (Cond.initialized y.cls).before a0 Z = true) (hM : ji l Z y bytes maxL none [] rm as' h Q) (eT : T.heap = h) (hi : y.name = "<init>") (hy : y.cls ≠ "java/lang/invoke/MethodHandle" ∧ y.cls ≠ "java/lang/invoke/VarHandle")
  {g : JFrame} (hg : g.method = m) (hsize : g.locals.size = c.maxLocals) {argsL rest : List Value} (hA : (Value.ref b :: argsL).toArray = as') (hlen : ∀ sig, parseMethodDescriptor y.desc = some sig → argsL.length = sig.parameters.length) (hstack : g.stack = argsL.reverse ++ .ref b :: rest) {W : Nat} (hW : 2 * g.monitorRoom + (rest.map fun v => v.category).sum ≤ W) (hdg : decode c.code g.pc = .ok (.invokespecial index, 3)) (hR : rm.frames + 1 ≤ R.frames ∧ W + (maxL + 11) + rm.locals ≤ R.locals ∧ cells + rm.cells ≤ R.cells ∧ slots + rm.slots ≤ R.slots) :
  ∃ v T' L', Stand p l e R s m args below meth c T' (locs ++ L') (cells + rm.cells) (slots + rm.slots) ∧ Q v T'.heap L' ∧ ∀ t, Steps p.tables e below (T'.setTop { g with pc := g.pc + 3, stack := v.toList ++ rest }) t → Steps p.tables e below (T.setTop g) t := by
 subst hA
 have hK : Jvm.Free.Back l R p e below s args y 3 W _ _ := backOf (W := W) hM hZ wc wz hR.1 hR.2.1
 obtain ⟨v, _, ⟨T', L', k', n'⟩, -, X', ⟨L, hQ, e1, e2, e3⟩, st⟩ := X.specialBack hx hi hown (mvT hZ w1) (mvT hZ w2) (mvT hZ wc) hy hK hg hsize (Steps.refl _) hlen hstack hW hdg (fun _ _ => ⟨rfl, eT, hR.2.2.1, hR.2.2.2⟩)
 dsimp only [Pt.U, Pt.locs, Pt.cells, Pt.slots] at X' e1 e2 e3 hQ st
 subst e1 e2 e3
 exact ⟨_, T', L, X', hQ, fun t k => st.trans k⟩
theorem jax (X : Stand p l e R s m args below meth c T locs cells slots) (hx : p.tables.exec = Jvm.exec) (hZ : Z.Warmed39 s.vm) (hown : s.vm.findClass own = some m.cls) (w1 : (Cond.methodLink own index x).before a0 Z = true) (w2 : (Cond.declares x).before a0 Z = true) (w3 : (Cond.selects C x y).before a0 Z = true) (w4 : (Cond.instanceMethod y).before a0 Z = true) (wc : (Cond.code y bytes maxL ret).before a0 Z = true) (wz : (Cond.initialized y.cls).before a0 Z = true) (hM : ji l Z y bytes maxL ret [] rm as' h Q) (eT : T.heap = h) (hnf : NotFace s x) (E : Exa Z h b C) (hy : x.cls ≠ "java/lang/invoke/MethodHandle" ∧ x.cls ≠ "java/lang/invoke/VarHandle")
  {g : JFrame} (hg : g.method = m) (hsize : g.locals.size = c.maxLocals) {argsL rest : List Value} (hA : (Value.ref b :: argsL).toArray = as') (hlen : ∀ sig, parseMethodDescriptor x.desc = some sig → argsL.length = sig.parameters.length) (hstack : g.stack = argsL.reverse ++ .ref b :: rest) {W : Nat} (hW : 2 * g.monitorRoom + (rest.map fun v => v.category).sum ≤ W) (hdg : decode c.code g.pc = .ok (.invokevirtual index, 3)) (hR : rm.frames + 1 ≤ R.frames ∧ W + (maxL + 11) + rm.locals ≤ R.locals ∧ cells + rm.cells ≤ R.cells ∧ slots + rm.slots ≤ R.slots) :
  ∃ v T' L', Stand p l e R s m args below meth c T' (locs ++ L') (cells + rm.cells) (slots + rm.slots) ∧ Q v T'.heap L' ∧ ∀ t, Steps p.tables e below (T'.setTop { g with pc := g.pc + 3, stack := v.toList ++ rest }) t → Steps p.tables e below (T.setTop g) t := by
 subst hA
 have hK : Jvm.Free.Back l R p e below s args y 3 W _ _ := backOf (W := W) hM hZ wc wz hR.1 hR.2.1
 obtain ⟨cq, kq, qa, qb, qc⟩ := isOf hZ eT E
 obtain ⟨v, _, ⟨T', L', k', n'⟩, -, X', ⟨L, hQ, e1, e2, e3⟩, st⟩ := X.virtualBack hx hown (mvT hZ w1) (mvT hZ w2) hnf (mvT hZ w3) (mvT hZ w4) hy hK qa qc hg hsize (Steps.refl _) hlen hstack hW hdg (fun _ _ => ⟨rfl, eT, hR.2.2.1, hR.2.2.2⟩)
 dsimp only [Pt.U, Pt.locs, Pt.cells, Pt.slots] at X' e1 e2 e3 hQ st
 subst e1 e2 e3
 exact ⟨_, T', L, X', hQ, fun t k => st.trans k⟩
theorem jaI (X : Stand p l e R s m args below meth c T locs cells slots) (hx : p.tables.exec = Jvm.exec) (hZ : Z.Warmed39 s.vm) (hown : s.vm.findClass own = some m.cls) (w1 : (Cond.methodLink own index x).before a0 Z = true) (w2 : (Cond.declares x).before a0 Z = true) (w3 : (Cond.selects C x y).before a0 Z = true) (w4 : (Cond.instanceMethod y).before a0 Z = true) (w5 : (Cond.interfaceMethod x.cls x.cls x.name x.desc).before args s = true) (w6 : (Cond.publicMethod y).before a0 Z = true) (w7 : (Cond.unhidden C x.name x.desc).before a0 Z = true) (w8 : (Cond.castable C x.cls).before a0 Z = true) (wc : (Cond.code y bytes maxL ret).before a0 Z = true) (wz : (Cond.initialized y.cls).before a0 Z = true) (hM : ji l Z y bytes maxL ret [] rm as' h Q) (eT : T.heap = h) (E : Exa Z h b C) (hy : x.cls ≠ "java/lang/invoke/MethodHandle" ∧ x.cls ≠ "java/lang/invoke/VarHandle")
  {g : JFrame} (hg : g.method = m) (hsize : g.locals.size = c.maxLocals) {argsL rest : List Value} (hA : (Value.ref b :: argsL).toArray = as') (hlen : ∀ sig, parseMethodDescriptor x.desc = some sig → argsL.length = sig.parameters.length) (hstack : g.stack = argsL.reverse ++ .ref b :: rest) {W : Nat} (hW : 2 * g.monitorRoom + (rest.map fun v => v.category).sum ≤ W) (hdg : decode c.code g.pc = .ok (.invokeinterface index count, 5)) (hR : rm.frames + 1 ≤ R.frames ∧ W + (maxL + 11) + rm.locals ≤ R.locals ∧ cells + rm.cells ≤ R.cells ∧ slots + rm.slots ≤ R.slots) :
  ∃ v T' L', Stand p l e R s m args below meth c T' (locs ++ L') (cells + rm.cells) (slots + rm.slots) ∧ Q v T'.heap L' ∧ ∀ t, Steps p.tables e below (T'.setTop { g with pc := g.pc + 5, stack := v.toList ++ rest }) t → Steps p.tables e below (T.setTop g) t := by
 subst hA
 have hK : Jvm.Free.Back l R p e below s args y 5 W _ _ := backOf (W := W) hM hZ wc wz hR.1 hR.2.1
 obtain ⟨cq, kq, qa, qb, qc⟩ := isOf hZ eT E
 obtain ⟨v, _, ⟨T', L', k', n'⟩, -, X', ⟨L, hQ, e1, e2, e3⟩, st⟩ := X.interfaceBack hx hown (mvT hZ w1) (mvT hZ w2) w5 (mvT hZ w3) (mvT hZ w4) (mvT hZ w6) (mvT hZ w7) (mvT hZ w8) hy hK qa qb qc hg hsize (Steps.refl _) hlen hstack hW hdg (fun _ _ => ⟨rfl, eT, hR.2.2.1, hR.2.2.2⟩)
 dsimp only [Pt.U, Pt.locs, Pt.cells, Pt.slots] at X' e1 e2 e3 hQ st
 subst e1 e2 e3
 exact ⟨_, T', L, X', hQ, fun t k => st.trans k⟩
theorem jls {hs : List (Nat × Nat × Nat × Nat)} (X : Stand p l e R s m args below meth c T locs cells slots) (hx : p.tables.exec = Jvm.exec) (hZ : Z.Warmed39 s.vm) (hown : s.vm.findClass own = some m.cls) (w1 : (Cond.methodLink own index x).before a0 Z = true) (w2 : (Cond.declares x).before a0 Z = true) (w3 : (Cond.selects C x y).before a0 Z = true) (w4 : (Cond.instanceMethod y).before a0 Z = true) (w5 : (Cond.interfaceMethod x.cls x.cls x.name x.desc).before args s = true) (w6 : (Cond.publicMethod y).before a0 Z = true) (w7 : (Cond.unhidden C x.name x.desc).before a0 Z = true) (w8 : (Cond.castable C x.cls).before a0 Z = true) (wc : (Cond.codeWith y bytes maxL ret hs).before a0 Z = true) (wz : (Cond.initialized y.cls).before a0 Z = true) (hM : MetFree l y (head1 [Jvm.Cond.codeWith y bytes maxL ret hs] rm) (fun a U => a = as' ∧ Z.Warmed39 U.vm ∧ U.heap = h) (fun _ _ _ _ _ => True) (fun _ U o U' => ∃ v L, o = .returned v ∧ Q v U'.heap L ∧ FrameEnd U o U' L rm.cells rm.slots)) (eT : T.heap = h) (E : Exa Z h b C) (hy : x.cls ≠ "java/lang/invoke/MethodHandle" ∧ x.cls ≠ "java/lang/invoke/VarHandle")
  {g : JFrame} (hg : g.method = m) (hsize : g.locals.size = c.maxLocals) {argsL rest : List Value} (hA : (Value.ref b :: argsL).toArray = as') (hlen : ∀ sig, parseMethodDescriptor x.desc = some sig → argsL.length = sig.parameters.length) (hstack : g.stack = argsL.reverse ++ .ref b :: rest) {W : Nat} (hW : 2 * g.monitorRoom + (rest.map fun v => v.category).sum ≤ W) (hdg : decode c.code g.pc = .ok (.invokeinterface index count, 5)) (hR : rm.frames + 1 ≤ R.frames ∧ W + (maxL + 11) + rm.locals ≤ R.locals ∧ cells + rm.cells ≤ R.cells ∧ slots + rm.slots ≤ R.slots) :
  ∃ v T' L', Stand p l e R s m args below meth c T' (locs ++ L') (cells + rm.cells) (slots + rm.slots) ∧ Q v T'.heap L' ∧ ∀ t, Steps p.tables e below (T'.setTop { g with pc := g.pc + 5, stack := v.toList ++ rest }) t → Steps p.tables e below (T.setTop g) t := by
 subst hA
 have hK : Jvm.Free.Back l R p e below s args y 5 W _ _ := backOfWith (W := W) hM hZ wc wz hR.1 hR.2.1
 obtain ⟨cq, kq, qa, qb, qc⟩ := isOf hZ eT E
 obtain ⟨v, _, ⟨T', L', k', n'⟩, -, X', ⟨L, hQ, e1, e2, e3⟩, st⟩ := X.interfaceBack hx hown (mvT hZ w1) (mvT hZ w2) w5 (mvT hZ w3) (mvT hZ w4) (mvT hZ w6) (mvT hZ w7) (mvT hZ w8) hy hK qa qb qc hg hsize (Steps.refl _) hlen hstack hW hdg (fun _ _ => ⟨rfl, eT, hR.2.2.1, hR.2.2.2⟩)
 dsimp only [Pt.U, Pt.locs, Pt.cells, Pt.slots] at X' e1 e2 e3 hQ st
 subst e1 e2 e3
 exact ⟨_, T', L, X', hQ, fun t k => st.trans k⟩
theorem jcL (X : Stand p l e R s m args below meth c T locs cells slots) (hx : p.tables.exec = Jvm.exec) (hZ : Z.Warmed39 s.vm) (hown : s.vm.findClass own = some m.cls) {C' : String} {z w : MethodName} (w1 : (Cond.methodLink own index y).before a0 Z = true) (w2 : (Cond.instanceMethod y).before a0 Z = true) (w3 : (Cond.selects C' z w).before a0 Z = true) (hwy : w.cls = y.cls) (w4 : (Cond.privateMethod y).before a0 Z = true) (wc : (Cond.code y bytes maxL ret).before a0 Z = true) (wz : (Cond.initialized y.cls).before a0 Z = true) (hM : ji l Z y bytes maxL ret [] rm as' h Q) (eT : T.heap = h) (E : Exa Z h b C) (hy : y.cls ≠ "java/lang/invoke/MethodHandle" ∧ y.cls ≠ "java/lang/invoke/VarHandle")
  {g : JFrame} (hg : g.method = m) (hsize : g.locals.size = c.maxLocals) {argsL rest : List Value} (hA : (Value.ref b :: argsL).toArray = as') (hlen : ∀ sig, parseMethodDescriptor y.desc = some sig → argsL.length = sig.parameters.length) (hstack : g.stack = argsL.reverse ++ .ref b :: rest) {W : Nat} (hW : 2 * g.monitorRoom + (rest.map fun v => v.category).sum ≤ W) (hdg : decode c.code g.pc = .ok (.invokevirtual index, 3)) (hR : rm.frames + 1 ≤ R.frames ∧ W + (maxL + 11) + rm.locals ≤ R.locals ∧ cells + rm.cells ≤ R.cells ∧ slots + rm.slots ≤ R.slots) :
  ∃ v T' L', Stand p l e R s m args below meth c T' (locs ++ L') (cells + rm.cells) (slots + rm.slots) ∧ Q v T'.heap L' ∧ ∀ t, Steps p.tables e below (T'.setTop { g with pc := g.pc + 3, stack := v.toList ++ rest }) t → Steps p.tables e below (T.setTop g) t := by
 subst hA
 have hK : Jvm.Free.Back l R p e below s args y 3 W _ _ := backOf (W := W) hM hZ wc wz hR.1 hR.2.1
 obtain ⟨cq, q1, q2⟩ := Exa.cell E
 obtain ⟨v, _, ⟨T', L', k', n'⟩, -, X', ⟨L, hQ, e1, e2, e3⟩, st⟩ := jeg X hx hown (mvT hZ w1) (mvT hZ w2) (mvT hZ w3) hwy (Cond.privateMethod_at (mvP hZ w4 (args := #[]))) (mvT hZ wc) hy hK hg hsize (Steps.refl _) (a := b) (by rw [eT]; exact q1) q2 hlen hstack hW hdg (fun _ _ => ⟨rfl, eT, hR.2.2.1, hR.2.2.2⟩)
 dsimp only [Pt.U, Pt.locs, Pt.cells, Pt.slots] at X' e1 e2 e3 hQ st
 subst e1 e2 e3
 exact ⟨_, T', L, X', hQ, fun t k => st.trans k⟩
abbrev jkL (m : MethodId) (pc : Nat) (a0 : Slot) (S : List Value) : JFrame := mkF m pc #[a0] S
theorem oD22_1j : oDec jdk_22_method_1_code [(0, .aload_n 0, 1), (1, .invokespecial 1, 3), (4, .return_, 1)] := by decide +kernel
theorem jr (m : MethodId) (x0 : Addr) : entryFrame m #[(.ref x0)] 1 = mkF m 0 #[(oR x0)] [] := by first | (simp [entryFrame, mkF, argsToLocals, Value.category]; done) | rfl
def jhY (Z : State) (pa : Addr)  (h0 : Heap) (n0 : Nat) (v : Option Value) (h : Heap) (L : List Loc) : Prop := v = none ∧ Fr n0 L ∧ h = h0
abbrev S0' := "java/lang/Object"
abbrev S1' := "java/util/HashMap"
abbrev S2' := "java/lang/String"
abbrev S3' := "java/util/ArrayList"
abbrev S4' := "[Ljava/lang/Object;"
abbrev S5' := "java/util/HashMap$Node"
abbrev S6' := "java/util/ImmutableCollections$ListItr"
abbrev S7' := "com/example/fimpl/fimpl/device/TileType"
abbrev S8' := "size"
abbrev S9' := "Ljava/lang/Object;"
abbrev S10' := "java/util/BitSet"
abbrev S11' := "java/util/ImmutableCollections$List12"
abbrev S12' := "modCount"
abbrev S13' := "java/util/ArrayList$Itr"
abbrev S14' := "Ljava/util/List;"
abbrev S15' := "elementData"
abbrev S16' := "[Ljava/util/HashMap$Node;"
abbrev S17' := "java/util/ImmutableCollections$ListN"
abbrev S18' := "com/example/fimpl/fimpl/device/WirePair"
abbrev S19' := "java/util/AbstractList"
abbrev S20' := "cursor"
abbrev S21' := "value"
abbrev S22' := "table"
abbrev S23' := "threshold"
abbrev S24' := "java/util/List"
abbrev S25' := "Ljava/lang/String;"
abbrev S26' := "COMPACT_STRINGS"
abbrev S27' := "<init>"
abbrev S28' := "isListIterator"
abbrev S29' := "java/util/ImmutableCollections"
abbrev S30' := "elements"
abbrev S31' := "Ljava/util/HashMap$Node;"
abbrev S32' := "wordsInUse"
abbrev S33' := "sizeIsSticky"
abbrev S34' := "java/util/Collections$UnmodifiableList"
abbrev S35' := "java/lang/Integer"
abbrev S36' := "pipSources"
abbrev S37' := "[Ljava/lang/Integer;"
abbrev S38' := "Ljava/util/ArrayList;"
abbrev S39' := "java/util/Collections$UnmodifiableCollection"
abbrev S40' := "destination"
abbrev S41' := "pipsFromStarts"
abbrev S42' := "wireNumbers"
abbrev S43' := "Ljava/util/Map;"
abbrev S44' := "Ljava/util/Collection;"
abbrev S45' := "java/util/Collections$UnmodifiableRandomAccessList"
abbrev S46' := "lastRet"
abbrev S47' := "expectedModCount"
abbrev S48' := "pipDestinationWires"
abbrev S49' := "Ljava/util/BitSet;"
abbrev S50' := "DEFAULTCAPACITY_EMPTY_ELEMENTDATA"
abbrev S51' := "hashIsZero"
abbrev S52' := "loadFactor"
abbrev S53' := "pipDestinations"
abbrev S54' := "com/example/fimpl/fimpl/device/TileTypeIsPipSourcePinLaw"
abbrev S55' := "$assertionsDisabled"
abbrev S56' := "allowNulls"
abbrev S57' := "java/lang/StringLatin1"
abbrev S58' := "java/lang/Integer$IntegerCache"
abbrev S59' := "(I)Ljava/lang/Object;"
abbrev S60' := "java/util/AbstractCollection"
abbrev S61' := "java/util/ImmutableCollections$AbstractImmutableList"
abbrev S62' := "(Ljava/lang/Object;Ljava/lang/Object;)Ljava/lang/Object;"
abbrev S63' := "([Ljava/lang/Object;)Ljava/util/List;"
abbrev S64' := "(Ljava/util/Collection;)Ljava/util/List;"
abbrev M0' : MethodName := ⟨S3', "add", "(Ljava/lang/Object;[Ljava/lang/Object;I)V"⟩
abbrev M1' : MethodName := ⟨S3', "add", "(Ljava/lang/Object;)Z"⟩
abbrev M2' : MethodName := ⟨S1', "putVal", "(ILjava/lang/Object;Ljava/lang/Object;ZZ)Ljava/lang/Object;"⟩
abbrev M3' : MethodName := ⟨S1', "putIfAbsent", S62'⟩
abbrev M4' : MethodName := ⟨"java/lang/Math", "min", "(II)I"⟩
abbrev M5' : MethodName := ⟨"java/util/Arrays", "copyOf", "([Ljava/lang/Object;ILjava/lang/Class;)[Ljava/lang/Object;"⟩
abbrev M6' : MethodName := ⟨"java/util/Arrays", "copyOf", "([Ljava/lang/Object;I)[Ljava/lang/Object;"⟩
abbrev M7' : MethodName := ⟨S3', "toArray", "()[Ljava/lang/Object;"⟩
abbrev M8' : MethodName := ⟨S17', S27', "([Ljava/lang/Object;Z)V"⟩
abbrev M9' : MethodName := ⟨S24', "of", S63'⟩
abbrev M10' : MethodName := ⟨S29', "listCopy", S64'⟩
abbrev M11' : MethodName := ⟨S24', "copyOf", S64'⟩
abbrev M12' : MethodName := ⟨S11', S8', "()I"⟩
abbrev M13' : MethodName := ⟨S61', "iterator", "()Ljava/util/Iterator;"⟩
abbrev M14' : MethodName := ⟨S61', S8', "()I"⟩
abbrev M15' : MethodName := ⟨S6', "next", "()Ljava/lang/Object;"⟩
abbrev M16' : MethodName := ⟨S17', S8', "()I"⟩
abbrev M17' : MethodName := ⟨S6', "hasNext", "()Z"⟩
abbrev M18' : MethodName := ⟨S24', "getClass", "()Ljava/lang/Class;"⟩
abbrev M19' : MethodName := ⟨S18', S27', "(Ljava/lang/String;Ljava/lang/String;)V"⟩
abbrev M20' : MethodName := ⟨S7', S27', "(Ljava/lang/String;Ljava/util/List;Ljava/util/List;Ljava/util/List;)V"⟩
theorem jaU : plainName "java/util/AbstractCollection" = true := by first | (simp [plainName, overriddenIn]; done) | decide +kernel
theorem jdz (l : Launch) (Z : State) (a0 : Array Value) (hw : oH a0 Z) (ws : List Jvm.Cond) (pa : Addr)  (h0 : Heap) (n0 : Nat) (Z0 : n0 ≤ h0.size) :
  ji l Z (⟨S60', S27', "()V"⟩ : MethodName) jdk_22_method_1_code 1 none ws ({ frames := 1, cells := 0, slots := 0, locals := 12 } : Room) #[(.ref pa)] h0 (jhY Z pa h0 n0) := by
 refine jb (plainFor_of_name jaU) (fun m => jr m pa) ?_
 intro p e s m below meth c s₁ Bd hx hby hml hown hZ X0 e0 Pf hPf
 have N0 := Fr.nil n0
 have dd := oD22_1j.hb hby
 have ow19 := ow hw 19 rfl
 have ow20 := ow hw 20 rfl
 have ow21 := ow hw 21 rfl
 refine ja (A := oW p e below s₁ (jkL m 1 (oR pa) [(.ref pa)])) (fun t k => by
  refine XS.aloadN X0.here hx rfl (dd 0 rfl) rfl rfl ?_
  exact k) ?_
 obtain ⟨T1, X1, e1, st1⟩ := initO X0 hx hZ hown ow19 ow20 ow21 e0 (g := (jkL m 1 (oR pa) [(.ref pa)])) rfl (by rw [hml]; rfl) rfl (dd 1 rfl) (by decide) (W := 0) (by show 2 * 0 + _ ≤ _; exact Nat.le_of_eq rfl) (by decide)
 refine ja st1 ?_
 refine jaa X1 hx Bd hPf (by decide) (by decide) (dd 2 rfl) ?_
 rw [e1]
 exact ⟨rfl, N0, rfl⟩
abbrev jhZ (m : MethodId) (pc : Nat) (a0 : Slot) (S : List Value) : JFrame := mkF m pc #[a0] S
theorem oD30_1j : oDec jdk_30_method_1_code [(0, .aload_n 0, 1), (1, .invokespecial 1, 3), (4, .return_, 1)] := by decide +kernel
def jgo (Z : State) (pa : Addr)  (h0 : Heap) (n0 : Nat) (v : Option Value) (h : Heap) (L : List Loc) : Prop := v = none ∧ Fr n0 L ∧ h = h0
theorem jbR : plainName "java/lang/Record" = true := by first | (simp [plainName, overriddenIn]; done) | decide +kernel
theorem jeD (l : Launch) (Z : State) (a0 : Array Value) (hw : oH a0 Z) (ws : List Jvm.Cond) (pa : Addr)  (h0 : Heap) (n0 : Nat) (Z0 : n0 ≤ h0.size) :
  ji l Z (⟨"java/lang/Record", S27', "()V"⟩ : MethodName) jdk_30_method_1_code 1 none ws ({ frames := 1, cells := 0, slots := 0, locals := 12 } : Room) #[(.ref pa)] h0 (jgo Z pa h0 n0) := by
 refine jb (plainFor_of_name jbR) (fun m => jr m pa) ?_
 intro p e s m below meth c s₁ Bd hx hby hml hown hZ X0 e0 Pf hPf
 have N0 := Fr.nil n0
 have dd := oD30_1j.hb hby
 have ow20 := ow hw 20 rfl
 have ow21 := ow hw 21 rfl
 have ow97 := ow hw 97 rfl
 refine ja (A := oW p e below s₁ (jhZ m 1 (oR pa) [(.ref pa)])) (fun t k => by
  refine XS.aloadN X0.here hx rfl (dd 0 rfl) rfl rfl ?_
  exact k) ?_
 obtain ⟨T1, X1, e1, st1⟩ := initO X0 hx hZ hown ow97 ow20 ow21 e0 (g := (jhZ m 1 (oR pa) [(.ref pa)])) rfl (by rw [hml]; rfl) rfl (dd 1 rfl) (by decide) (W := 0) (by show 2 * 0 + _ ≤ _; exact Nat.le_of_eq rfl) (by decide)
 refine ja st1 ?_
 refine jaa X1 hx Bd hPf (by decide) (by decide) (dd 2 rfl) ?_
 rw [e1]
 exact ⟨rfl, N0, rfl⟩
abbrev jkM (m : MethodId) (pc : Nat) (a0 : Slot) (S : List Value) : JFrame := mkF m pc #[a0] S
theorem oD71_1j : oDec jdk_71_method_1_code [(0, .aload_n 0, 1), (1, .invokespecial 1, 3), (4, .return_, 1)] := by decide +kernel
def jia (Z : State) (pa : Addr)  (h0 : Heap) (n0 : Nat) (v : Option Value) (h : Heap) (L : List Loc) : Prop := v = none ∧ Fr n0 L ∧ h = h0
theorem jbt : plainName "java/util/AbstractMap" = true := by first | (simp [plainName, overriddenIn]; done) | decide +kernel
theorem jgp (l : Launch) (Z : State) (a0 : Array Value) (hw : oH a0 Z) (ws : List Jvm.Cond) (pa : Addr)  (h0 : Heap) (n0 : Nat) (Z0 : n0 ≤ h0.size) :
  ji l Z (⟨"java/util/AbstractMap", S27', "()V"⟩ : MethodName) jdk_71_method_1_code 1 none ws ({ frames := 1, cells := 0, slots := 0, locals := 12 } : Room) #[(.ref pa)] h0 (jia Z pa h0 n0) := by
 refine jb (plainFor_of_name jbt) (fun m => jr m pa) ?_
 intro p e s m below meth c s₁ Bd hx hby hml hown hZ X0 e0 Pf hPf
 have N0 := Fr.nil n0
 have dd := oD71_1j.hb hby
 have ow20 := ow hw 20 rfl
 have ow21 := ow hw 21 rfl
 have ow130 := ow hw 130 rfl
 refine ja (A := oW p e below s₁ (jkM m 1 (oR pa) [(.ref pa)])) (fun t k => by
  refine XS.aloadN X0.here hx rfl (dd 0 rfl) rfl rfl ?_
  exact k) ?_
 obtain ⟨T1, X1, e1, st1⟩ := initO X0 hx hZ hown ow130 ow20 ow21 e0 (g := (jkM m 1 (oR pa) [(.ref pa)])) rfl (by rw [hml]; rfl) rfl (dd 1 rfl) (by decide) (W := 0) (by show 2 * 0 + _ ≤ _; exact Nat.le_of_eq rfl) (by decide)
 refine ja st1 ?_
 refine jaa X1 hx Bd hPf (by decide) (by decide) (dd 2 rfl) ?_
 rw [e1]
 exact ⟨rfl, N0, rfl⟩
abbrev jib (m : MethodId) (pc : Nat) (a0 : Slot) (S : List Value) : JFrame := mkF m pc #[a0] S
theorem oD47_1j : oDec jdk_47_method_1_code [(0, .aload_n 0, 1), (1, .invokespecial 1, 3), (4, .return_, 1)] := by decide +kernel
theorem jS : parseMethodDescriptor "()V" = some ⟨[], none⟩ := by decide +kernel
def jgq (Z : State) (pa : Addr)  (h0 : Heap) (n0 : Nat) (v : Option Value) (h : Heap) (L : List Loc) : Prop := v = none ∧ Fr n0 L ∧ h = h0
theorem jY : plainName "java/util/ImmutableCollections$AbstractImmutableCollection" = true := by first | (simp [plainName, overriddenIn]; done) | decide +kernel
theorem jeE (l : Launch) (Z : State) (a0 : Array Value) (hw : oH a0 Z) (ws : List Jvm.Cond) (pa : Addr)  (h0 : Heap) (n0 : Nat) (Z0 : n0 ≤ h0.size) :
  ji l Z (⟨"java/util/ImmutableCollections$AbstractImmutableCollection", S27', "()V"⟩ : MethodName) jdk_47_method_1_code 1 none ws ({ frames := 2, cells := 0, slots := 0, locals := 24 } : Room) #[(.ref pa)] h0 (jgq Z pa h0 n0) := by
 refine jb (plainFor_of_name jY) (fun m => jr m pa) ?_
 intro p e s m below meth c s₁ Bd hx hby hml hown hZ X0 e0 Pf hPf
 have N0 := Fr.nil n0
 have dd := oD47_1j.hb hby
 have ow14 := ow hw 14 rfl
 have ow17 := ow hw 17 rfl
 have ow18 := ow hw 18 rfl
 have ow240 := ow hw 240 rfl
 refine ja (A := oW p e below s₁ (jib m 1 (oR pa) [(.ref pa)])) (fun t k => by
  refine XS.aloadN X0.here hx rfl (dd 0 rfl) rfl rfl ?_
  exact k) ?_
 obtain ⟨_, T1, L1, X1, hQ1, st1⟩ := jaF X0 hx hZ hown ow240 ow14 ow18 ow17 (jdz l Z a0 hw [] pa h0 n0 Z0 ) e0 rfl (by decide) (g := (jib m 1 (oR pa) [(.ref pa)])) rfl (by rw [hml]; rfl) (rest := []) rfl (lenOf jS rfl) rfl (W := 0) (Nat.le_of_eq rfl) (dd 1 rfl) (by decide)
 obtain ⟨rfl, N1q, eh1⟩ := hQ1
 have N1 := Fr.app N0 N1q
 refine ja st1 ?_
 refine jaa X1 hx Bd hPf (by decide) (by decide) (dd 2 rfl) ?_
 rw [eh1]
 exact ⟨rfl, N1, rfl⟩
abbrev jic (m : MethodId) (pc : Nat) (a0 : Slot) (S : List Value) : JFrame := mkF m pc #[a0] S
theorem oD46_1j : oDec jdk_46_method_1_code [(0, .aload_n 0, 1), (1, .invokespecial 1, 3), (4, .return_, 1)] := by decide +kernel
def jgr (Z : State) (pa : Addr)  (h0 : Heap) (n0 : Nat) (v : Option Value) (h : Heap) (L : List Loc) : Prop := v = none ∧ Fr n0 L ∧ h = h0
theorem jx : plainName "java/util/ImmutableCollections$AbstractImmutableList" = true := by first | (simp [plainName, overriddenIn]; done) | decide +kernel
theorem jcF (l : Launch) (Z : State) (a0 : Array Value) (hw : oH a0 Z) (ws : List Jvm.Cond) (pa : Addr)  (h0 : Heap) (n0 : Nat) (Z0 : n0 ≤ h0.size) :
  ji l Z (⟨S61', S27', "()V"⟩ : MethodName) jdk_46_method_1_code 1 none ws ({ frames := 3, cells := 0, slots := 0, locals := 36 } : Room) #[(.ref pa)] h0 (jgr Z pa h0 n0) := by
 refine jb (plainFor_of_name jx) (fun m => jr m pa) ?_
 intro p e s m below meth c s₁ Bd hx hby hml hown hZ X0 e0 Pf hPf
 have N0 := Fr.nil n0
 have dd := oD46_1j.hb hby
 have ow234 := ow hw 234 rfl
 have ow235 := ow hw 235 rfl
 have ow238 := ow hw 238 rfl
 have ow239 := ow hw 239 rfl
 refine ja (A := oW p e below s₁ (jic m 1 (oR pa) [(.ref pa)])) (fun t k => by
  refine XS.aloadN X0.here hx rfl (dd 0 rfl) rfl rfl ?_
  exact k) ?_
 obtain ⟨_, T1, L1, X1, hQ1, st1⟩ := jaF X0 hx hZ hown ow234 ow235 ow239 ow238 (jeE l Z a0 hw [] pa h0 n0 Z0 ) e0 rfl (by decide) (g := (jic m 1 (oR pa) [(.ref pa)])) rfl (by rw [hml]; rfl) (rest := []) rfl (lenOf jS rfl) rfl (W := 0) (Nat.le_of_eq rfl) (dd 1 rfl) (by decide)
 obtain ⟨rfl, N1q, eh1⟩ := hQ1
 have N1 := Fr.app N0 N1q
 refine ja st1 ?_
 refine jaa X1 hx Bd hPf (by decide) (by decide) (dd 2 rfl) ?_
 rw [eh1]
 exact ⟨rfl, N1, rfl⟩
abbrev jdO (m : MethodId) (pc : Nat) (a0 : Slot) (S : List Value) : JFrame := mkF m pc #[a0] S
theorem oD39_1j : oDec jdk_39_method_1_code [(0, .aload_n 0, 1), (1, .invokespecial 1, 3), (4, .aload_n 0, 1), (5, .iconst 0, 1), (6, .putfield 7, 3), (9, .return_, 1)] := by decide +kernel
theorem jdP {a0 : Array Value} {Z : State} (hw : oH a0 Z) : jc Z S3' S15' S4' ≠ jc Z S19' S12' "I" := jg (C := S3') (Or.inl (ow hw 26 rfl)) (Or.inl (ow hw 23 rfl)) (by decide) rfl rfl
theorem jdQ {a0 : Array Value} {Z : State} (hw : oH a0 Z) : jc Z S3' S8' "I" ≠ jc Z S19' S12' "I" := jg (C := S3') (Or.inl (ow hw 63 rfl)) (Or.inl (ow hw 23 rfl)) (by decide) rfl rfl
def jgs (Z : State) (pa : Addr)  (h0 : Heap) (n0 : Nat) (v : Option Value) (h : Heap) (L : List Loc) : Prop := v = none ∧ Fr n0 L ∧ Keep h0 h [pa] ∧ Fld Z h pa S19' S12' "I" (.int 0) ∧ Fld Z h pa S3' S15' S4' .null ∧ Fld Z h pa S3' S8' "I" (.int 0)
theorem jbo : plainName "java/util/AbstractList" = true := by first | (simp [plainName, overriddenIn]; done) | decide +kernel
theorem jeF (l : Launch) (Z : State) (a0 : Array Value) (hw : oH a0 Z) (ws : List Jvm.Cond) (pa : Addr)  (h0 : Heap) (n0 : Nat) (Z0 : n0 ≤ h0.size) (Ea0 : Exa Z h0 pa S3') (Fm0 : Fld Z h0 pa S19' S12' "I" (.int 0)) (g_pa : n0 ≤ pa) (Fe0 : Fld Z h0 pa S3' S15' S4' .null) (Fs0 : Fld Z h0 pa S3' S8' "I" (.int 0)) :
  ji l Z (⟨S19', S27', "()V"⟩ : MethodName) jdk_39_method_1_code 1 none ws ({ frames := 2, cells := 0, slots := 0, locals := 24 } : Room) #[(.ref pa)] h0 (jgs Z pa h0 n0) := by
 refine jb (plainFor_of_name jbo) (fun m => jr m pa) ?_
 intro p e s m below meth c s₁ Bd hx hby hml hown hZ X0 e0 Pf hPf
 have N0 := Fr.nil n0
 have dd := oD39_1j.hb hby
 have ow2 := ow hw 2 rfl
 have ow13 := ow hw 13 rfl
 have ow14 := ow hw 14 rfl
 have ow17 := ow hw 17 rfl
 have ow18 := ow hw 18 rfl
 have ow22 := ow hw 22 rfl
 have ow23 := ow hw 23 rfl
 refine ja (A := oW p e below s₁ (jdO m 1 (oR pa) [(.ref pa)])) (fun t k => by
  refine XS.aloadN X0.here hx rfl (dd 0 rfl) rfl rfl ?_
  exact k) ?_
 obtain ⟨_, T1, L1, X1, hQ1, st1⟩ := jaF X0 hx hZ hown ow13 ow14 ow18 ow17 (jdz l Z a0 hw [] pa h0 n0 Z0 ) e0 rfl (by decide) (g := (jdO m 1 (oR pa) [(.ref pa)])) rfl (by rw [hml]; rfl) (rest := []) rfl (lenOf jS rfl) rfl (W := 0) (Nat.le_of_eq rfl) (dd 1 rfl) (by decide)
 obtain ⟨rfl, N1q, eh1⟩ := hQ1
 have N1 := Fr.app N0 N1q
 refine ja st1 ?_
 refine ja (A := oW p e below T1 (jdO m 6 (oR pa) [(.int 0), (.ref pa)])) (fun t k => by
  refine XS.aloadN X1.here hx rfl (dd 2 rfl) rfl rfl ?_
  refine XS.iconst X1.here hx rfl (dd 3 rfl) ?_
  exact k) ?_
 obtain ⟨T2, h2, X2, e2, W2, st2⟩ := putF X1 hx hZ hown (host := "") (Or.inl ow22) Via.refl eh1 Fm0 Ea0 (Or.inl ow23) ow2 (ty := .int) (by decide) rfl rfl (g := (jdO m 6 (oR pa) [(.int 0), (.ref pa)])) rfl rfl (dd 4 rfl)
 refine ja st2 ?_
 have f2_1 : Fld Z h2 pa S19' S12' "I" (.int 0) := Fm0.same W2
 have f2_2 := Fe0.other W2 (Or.inr (jdP hw))
 have f2_3 := Fs0.other W2 (Or.inr (jdQ hw))
 have N2 := Fr.snoc X2 N1 g_pa
 have Z2 : n0 ≤ h2.size := Nat.le_trans Z0 (Keep.of_wr W2).1
 have K2 : Keep h0 h2 [pa] := (Keep.refl h0 [pa]).wr W2 (Or.inl (List.mem_of_getElem? (i := 0) rfl))
 refine jaa X2 hx Bd hPf (by decide) (by decide) (dd 5 rfl) ?_
 rw [e2]
 exact ⟨rfl, N2, K2, f2_1, f2_2, f2_3⟩
abbrev jei (m : MethodId) (pc : Nat) (a0 : Slot) (S : List Value) : JFrame := mkF m pc #[a0] S
theorem oD38_2j : oDec jdk_38_method_2_code [(0, .aload_n 0, 1), (1, .invokespecial 1, 3), (4, .aload_n 0, 1), (5, .getstatic 39, 3), (8, .putfield 9, 3), (11, .return_, 1)] := by decide +kernel
theorem jid {a0 : Array Value} {Z : State} (hw : oH a0 Z) : jc Z S19' S12' "I" ≠ jc Z S3' S15' S4' := jg (C := S3') (Or.inl (ow hw 23 rfl)) (Or.inl (ow hw 26 rfl)) (by decide) rfl rfl
theorem jie {a0 : Array Value} {Z : State} (hw : oH a0 Z) : jc Z S3' S8' "I" ≠ jc Z S3' S15' S4' := jg (C := S3') (Or.inl (ow hw 63 rfl)) (Or.inl (ow hw 26 rfl)) (by decide) rfl rfl
def jif (Z : State) (pa : Addr) (de : Addr) (h0 : Heap) (n0 : Nat) (v : Option Value) (h : Heap) (L : List Loc) : Prop := v = none ∧ Fr n0 L ∧ Keep h0 h [pa] ∧ Fld Z h pa S19' S12' "I" (.int 0) ∧ Fld Z h pa S3' S15' S4' (.ref de) ∧ Fld Z h pa S3' S8' "I" (.int 0)
theorem jf : plainName "java/util/ArrayList" = true := by first | (simp [plainName, overriddenIn]; done) | decide +kernel
theorem jct (l : Launch) (Z : State) (a0 : Array Value) (hw : oH a0 Z) (ws : List Jvm.Cond) (pa : Addr) (de : Addr) (h0 : Heap) (n0 : Nat) (Z0 : n0 ≤ h0.size) (Ea0 : Exa Z h0 pa S3') (Fm0 : Fld Z h0 pa S19' S12' "I" (.int 0)) (g_pa : n0 ≤ pa) (Fe0 : Fld Z h0 pa S3' S15' S4' .null) (Fs0 : Fld Z h0 pa S3' S8' "I" (.int 0)) (Sd0 : Sta Z h0 S3' S50' S4' (.ref de)) :
  ji l Z (⟨S3', S27', "()V"⟩ : MethodName) jdk_38_method_2_code 1 none ws ({ frames := 3, cells := 0, slots := 0, locals := 36 } : Room) #[(.ref pa)] h0 (jif Z pa de h0 n0) := by
 refine jb (plainFor_of_name jf) (fun m => jr m pa) ?_
 intro p e s m below meth c s₁ Bd hx hby hml hown hZ X0 e0 Pf hPf
 have N0 := Fr.nil n0
 have dd := oD38_2j.hb hby
 have ow2 := ow hw 2 rfl
 have ow7 := ow hw 7 rfl
 have ow8 := ow hw 8 rfl
 have ow11 := ow hw 11 rfl
 have ow12 := ow hw 12 rfl
 have ow24 := ow hw 24 rfl
 have ow25 := ow hw 25 rfl
 have ow26 := ow hw 26 rfl
 refine ja (A := oW p e below s₁ (jei m 1 (oR pa) [(.ref pa)])) (fun t k => by
  refine XS.aloadN X0.here hx rfl (dd 0 rfl) rfl rfl ?_
  exact k) ?_
 obtain ⟨_, T1, L1, X1, hQ1, st1⟩ := jaF X0 hx hZ hown ow7 ow8 ow12 ow11 (jeF l Z a0 hw [] pa h0 n0 Z0 Ea0 Fm0 g_pa Fe0 Fs0) e0 rfl (by decide) (g := (jei m 1 (oR pa) [(.ref pa)])) rfl (by rw [hml]; rfl) (rest := []) rfl (lenOf jS rfl) rfl (W := 0) (Nat.le_of_eq rfl) (dd 1 rfl) (by decide)
 obtain ⟨rfl, N1q, K1q, p1_0, p1_1, p1_2⟩ := hQ1
 have N1 := Fr.app N0 N1q
 have f1_4 := jC Sd0 K1q (allS (jaZ Ea0) all0)
 have Z1 : n0 ≤ T1.heap.size := Nat.le_trans Z0 K1q.1
 have K1 : Keep h0 T1.heap [pa] := (Keep.refl h0 [pa]).trans K1q (allS (Or.inl (List.mem_of_getElem? (i := 0) rfl)) all0)
 refine ja st1 ?_
 refine ja (A := oW p e below T1 (jei m 5 (oR pa) [(.ref pa)])) (fun t k => by
  refine XS.aloadN X1.here hx rfl (dd 2 rfl) rfl rfl ?_
  exact k) ?_
 obtain ⟨T2, X2, e2, st2⟩ := getS2 X1 hx hZ hown (host := "") (Or.inl ow24) Via.refl rfl f1_4 (g := (jei m 5 (oR pa) [(.ref pa)])) rfl (dd 3 rfl)
 refine ja st2 ?_
 obtain ⟨T3, h3, X3, e3, W3, st3⟩ := putF X2 hx hZ hown (host := "") (Or.inl ow25) Via.refl e2 p1_1 (Ea0.keep K1q) (Or.inl ow26) ow2 (ty := (.array (.object S0'))) (by decide) rfl rfl (g := (jei m 8 (oR pa) [(.ref de), (.ref pa)])) rfl rfl (dd 4 rfl)
 refine ja st3 ?_
 have f3_2 := p1_0.other W3 (Or.inr (jid hw))
 have f3_3 : Fld Z h3 pa S3' S15' S4' (.ref de) := p1_1.same W3
 have f3_4 := p1_2.other W3 (Or.inr (jie hw))
 have N3 := Fr.snoc X3 N1 g_pa
 have Z3 : n0 ≤ h3.size := Nat.le_trans Z1 (Keep.of_wr W3).1
 have K3 : Keep h0 h3 [pa] := K1.wr W3 (Or.inl (List.mem_of_getElem? (i := 0) rfl))
 refine jaa X3 hx Bd hPf (by decide) (by decide) (dd 5 rfl) ?_
 rw [e3]
 exact ⟨rfl, N3, K3, f3_2, f3_3, f3_4⟩
abbrev jjy (m : MethodId) (pc : Nat) (a0 a1 : Slot) (S : List Value) : JFrame := mkF m pc #[a0, a1] S
theorem oD29_65j : oDec jdk_29_method_65_code [(0, .iload_n 0, 1), (1, .iload_n 1, 1), (2, .if_icmp .lt 7, 3), (5, .iload_n 0, 1), (6, .goto 4, 3), (9, .iload_n 1, 1), (10, .ireturn, 1)] := by decide +kernel
theorem jbk (m : MethodId) (x0 : Int32) (x1 : Int32) : entryFrame m #[(.int x0), (.int x1)] 2 = mkF m 0 #[(oi x0), (oi x1)] [] := by first | (simp [entryFrame, mkF, argsToLocals, Value.category]; done) | rfl
def jeG (Z : State)  (h0 : Heap) (n0 : Nat) (v : Option Value) (h : Heap) (L : List Loc) : Prop := v = some (.int 10) ∧ Fr n0 L ∧ h = h0
theorem jej (l : Launch) (Z : State) (a0 : Array Value) (hw : oH a0 Z) (ws : List Jvm.Cond)  (h0 : Heap) (n0 : Nat) (Z0 : n0 ≤ h0.size) :
  ji l Z (⟨"java/lang/Math", "max", "(II)I"⟩ : MethodName) jdk_29_method_65_code 2 (some .int) ws ({ frames := 0, cells := 0, slots := 0, locals := 0 } : Room) #[(.int 10), (.int 1)] h0 (jeG Z  h0 n0) := by
 refine jb (Jvm.Free.JP.mathPlain rfl (by decide +kernel)) (fun m => jbk m (10 : Int32) (1 : Int32)) ?_
 intro p e s m below meth c s₁ Bd hx hby hml hown hZ X0 e0 Pf hPf
 have N0 := Fr.nil n0
 have dd := oD29_65j.hb hby
 refine ja (A := oW p e below s₁ (jjy m 10 (oi 10) (oi 1) [(.int 10)])) (fun t k => by
  refine XS.iloadN X0.here hx rfl (dd 0 rfl) rfl ?_
  refine XS.iloadN X0.here hx rfl (dd 1 rfl) rfl ?_
  refine XS.icmpNo X0.here hx rfl (dd 2 rfl) rfl (flt (by decide : ¬ ((10 : Int32) < (1 : Int32)))).1 ?_
  refine XS.iloadN X0.here hx rfl (dd 3 rfl) rfl ?_
  refine XS.goto X0.here hx rfl (pc0 := 6) (pc' := 10) rfl (dd 4 rfl) (by decide) (by decide) ?_
  exact k) ?_
 refine jaD X0 hx Bd hPf (by decide) (by decide) (dd 6 rfl) ?_
 rw [e0]
 exact ⟨rfl, N0, rfl⟩
abbrev jbJ (m : MethodId) (pc : Nat) (a0 a1 a2 a3 : Slot) (S : List Value) : JFrame := mkF m pc #[a0, a1, a2, a3] S
theorem oD38_6j : oDec jdk_38_method_6_code [(0, .aload_n 0, 1), (1, .getfield 9, 3), (4, .arraylength, 1), (5, .istore_n 2, 1), (6, .iload_n 2, 1), (7, .ifCond .gt 13, 3), (10, .aload_n 0, 1), (11, .getfield 9, 3), (14, .getstatic 39, 3), (17, .if_acmp .eq 28, 3), (20, .iload_n 2, 1), (21, .iload_n 1, 1), (22, .iload_n 2, 1), (23, .isub, 1), (24, .iload_n 2, 1), (25, .iconst 1, 1), (26, .ishr, 1), (27, .invokestatic 73, 3), (30, .istore_n 3, 1), (31, .aload_n 0, 1), (32, .aload_n 0, 1), (33, .getfield 9, 3), (36, .iload_n 3, 1), (37, .invokestatic 66, 3), (40, .dup_x1, 1), (41, .putfield 9, 3), (44, .areturn, 1), (45, .aload_n 0, 1), (46, .bipush 10, 2), (48, .iload_n 1, 1), (49, .invokestatic 79, 3), (52, .anewarray 7, 3), (55, .dup_x1, 1), (56, .putfield 9, 3), (59, .areturn, 1)] := by decide +kernel
theorem jaG : parseMethodDescriptor "(II)I" = some ⟨[.int, .int], some .int⟩ := by decide +kernel
theorem jeH (m : MethodId) (x0 : Addr) (x1 : Int32) : entryFrame m #[(.ref x0), (.int x1)] 4 = mkF m 0 #[(oR x0), (oi x1), ou, ou] [] := by first | (simp [entryFrame, mkF, argsToLocals, Value.category]; done) | rfl
def jig (Z : State) (pa : Addr) (de : Addr) (kd : ClassId) (mc : Int32) (h0 : Heap) (n0 : Nat) (v : Option Value) (h : Heap) (L : List Loc) : Prop := ∃ (ea : Addr) (ke : ClassId), v = some (.ref ea) ∧ Fr n0 L ∧ Keep h0 h [pa] ∧ h0.size ≤ ea ∧ Exa Z h ea S4' ∧ Ovr Z ke S0' ∧ Arv Z h ea ke (.object S0') (10 : Int32) [.null, .null, .null, .null, .null, .null, .null, .null, .null, .null] .null ∧ Fld Z h pa S19' S12' "I" (.int mc) ∧ Fld Z h pa S3' S15' S4' (.ref ea) ∧ Fld Z h pa S3' S8' "I" (.int 0)
theorem jgt (l : Launch) (Z : State) (a0 : Array Value) (hw : oH a0 Z) (ws : List Jvm.Cond) (pa : Addr) (de : Addr) (kd : ClassId) (mc : Int32) (h0 : Heap) (n0 : Nat) (Z0 : n0 ≤ h0.size) (Ea0 : Exa Z h0 pa S3') (Fm0 : Fld Z h0 pa S19' S12' "I" (.int mc)) (g_pa : n0 ≤ pa) (Fe0 : Fld Z h0 pa S3' S15' S4' (.ref de)) (Fs0 : Fld Z h0 pa S3' S8' "I" (.int 0)) (Sd0 : Sta Z h0 S3' S50' S4' (.ref de)) (Vd0 : Arv Z h0 de kd (.object S0') (0 : Int32) [] .null) :
  ji l Z (⟨S3', "grow", "(I)[Ljava/lang/Object;"⟩ : MethodName) jdk_38_method_6_code 4 (some (.array (.object S0'))) ws ({ frames := 1, cells := 1, slots := 10, locals := 14 } : Room) #[(.ref pa), (.int 1)] h0 (jig Z pa de kd mc h0 n0) := by
 refine jb (plainFor_of_name jf) (fun m => jeH m pa (1 : Int32)) ?_
 intro p e s m below meth c s₁ Bd hx hby hml hown hZ X0 e0 Pf hPf
 have N0 := Fr.nil n0
 have dd := oD38_6j.hb hby
 have ow2 := ow hw 2 rfl
 have ow24 := ow hw 24 rfl
 have ow25 := ow hw 25 rfl
 have ow26 := ow hw 26 rfl
 have ow79 := ow hw 79 rfl
 have ow80 := ow hw 80 rfl
 have ow81 := ow hw 81 rfl
 have ow82 := ow hw 82 rfl
 have ow83 := ow hw 83 rfl
 have ow84 := ow hw 84 rfl
 refine ja (A := oW p e below s₁ (jbJ m 1 (oR pa) (oi 1) ou ou [(.ref pa)])) (fun t k => by
  refine XS.aloadN X0.here hx rfl (dd 0 rfl) rfl rfl ?_
  exact k) ?_
 obtain ⟨T1, X1, e1, st1⟩ := getF X0 hx hZ hown (host := "") (Or.inl ow25) Via.refl e0 Fe0 (g := (jbJ m 1 (oR pa) (oi 1) ou ou [(.ref pa)])) rfl rfl (dd 1 rfl)
 refine ja st1 ?_
 refine ja (A := oW p e below T1 (jbJ m 11 (oR pa) (oi 1) (oi 0) ou [(.ref pa)])) (fun t k => by
  refine jM X1 hx hZ e1 Vd0 (g := (jbJ m 4 (oR pa) (oi 1) ou ou [(.ref de)])) rfl rfl (dd 2 rfl) _ ?_
  refine XS.istoreN X1.here hx rfl (dd 3 rfl) rfl (l' := #[(oR pa), (oi 1), (oi 0), ou]) rfl ?_
  refine XS.iloadN X1.here hx rfl (dd 4 rfl) rfl ?_
  refine XS.ifNo X1.here hx rfl (dd 5 rfl) rfl ((if0 _ _).trans (flt (by decide : ¬ ((0 : Int32) < (0 : Int32)))).2.2.1) ?_
  show oW p e below T1 (jbJ m 10 (oR pa) (oi 1) (oi 0) ou []) _
  refine XS.aloadN X1.here hx rfl (dd 6 rfl) rfl rfl ?_
  exact k) ?_
 obtain ⟨T2, X2, e2, st2⟩ := getF X1 hx hZ hown (host := "") (Or.inl ow25) Via.refl e1 Fe0 (g := (jbJ m 11 (oR pa) (oi 1) (oi 0) ou [(.ref pa)])) rfl rfl (dd 7 rfl)
 refine ja st2 ?_
 obtain ⟨T3, X3, e3, st3⟩ := getS2 X2 hx hZ hown (host := "") (Or.inl ow24) Via.refl e2 Sd0 (g := (jbJ m 14 (oR pa) (oi 1) (oi 0) ou [(.ref de)])) rfl (dd 8 rfl)
 refine ja st3 ?_
 refine ja (A := oW p e below T3 (jbJ m 49 (oR pa) (oi 1) (oi 0) ou [(.int 1), (.int 10), (.ref pa)])) (fun t k => by
  refine Jvm.RoadKit.acmp (g := (jbJ m 17 (oR pa) (oi 1) (oi 0) ou [(.ref de), (.ref de)])) X3 hx rfl rfl rfl (pc0 := 17) (pc' := 45) (same := true) rfl (dd 9 rfl) rfl (decide_eq_true rfl) (by decide) (by decide) ?_
  refine XS.aloadN X3.here hx rfl (dd 27 rfl) rfl rfl ?_
  refine XS.bipush X3.here hx rfl (dd 28 rfl) ?_
  refine XS.iloadN X3.here hx rfl (dd 29 rfl) rfl ?_
  exact k) ?_
 obtain ⟨_, T4, L4, X4, hQ4, st4⟩ := jH X3 hx hZ hown ow79 ow80 ow82 ow81 (jej l Z a0 hw []  h0 n0 Z0 ) e3 (by decide) (g := (jbJ m 49 (oR pa) (oi 1) (oi 0) ou [(.int 1), (.int 10), (.ref pa)])) rfl (by rw [hml]; rfl) (rest := [(.ref pa)]) rfl (lenOf jaG rfl) rfl (W := 1) (Nat.le_of_eq rfl) (dd 30 rfl) (by decide)
 obtain ⟨rfl, N4q, eh4⟩ := hQ4
 have N4 := Fr.app N0 N4q
 refine ja st4 ?_
 obtain ⟨T5, h5, k5, X5, e5, E5, A5, Q5, O5, st5⟩ := newRE X4 hx hZ hown ow83 ow84 eh4 (g := (jbJ m 52 (oR pa) (oi 1) (oi 0) ou [(.int 10), (.ref pa)])) rfl (dd 31 rfl) rfl (by decide) (cap := 10) (by decide) (by decide) (by decide) (by decide) (ad := S4') (by decide)
 obtain ⟨b5, g5⟩ : ∃ z, z = h0.size := ⟨_, rfl⟩
 rw [← g5] at A5 Q5 st5
 refine ja st5 ?_
 have ne_pa_b5 : pa ≠ b5 := Nat.ne_of_lt (Nat.lt_of_lt_of_le Ea0.lt (Nat.le_of_eq g5.symm))
 have ne_de_b5 : de ≠ b5 := Nat.ne_of_lt (Nat.lt_of_lt_of_le Vd0.lt (Nat.le_of_eq g5.symm))
 have g_b5 : n0 ≤ b5 := Nat.le_trans Z0 (Nat.le_of_eq g5.symm)
 have Z5 : n0 ≤ h5.size := Nat.le_trans Z0 E5.1
 have sz_b5 : h0.size ≤ b5 := Nat.le_trans (Keep.refl h0 [pa]).1 (Nat.le_of_eq g5.symm)
 have K5 : Keep h0 h5 [pa] := (Keep.refl h0 [pa]).ext E5
 have U5 : Arv Z h5 b5 k5 (.object S0') (10 : Int32) [] .null := Arv.new A5 (by decide)
 have V5 : Arv Z h5 b5 k5 (.object S0') (10 : Int32) [.null, .null, .null, .null, .null, .null, .null, .null, .null, .null] .null := U5.pad (pad_rep [] .null 10)
 refine ja (A := oW p e below T5 (jbJ m 56 (oR pa) (oi 1) (oi 0) ou [(.ref b5), (.ref pa), (.ref b5)])) (fun t k => by
  refine XS.dupX1 X5.here hx rfl (dd 32 rfl) rfl rfl rfl ?_
  exact k) ?_
 obtain ⟨T6, h6, X6, e6, W6, st6⟩ := putF X5 hx hZ hown (host := "") (Or.inl ow25) Via.refl e5 (Fe0.ext E5) (Ea0.ext E5) (Or.inl ow26) ow2 (ty := (.array (.object S0'))) (by decide) rfl rfl (g := (jbJ m 56 (oR pa) (oi 1) (oi 0) ou [(.ref b5), (.ref pa), (.ref b5)])) rfl rfl (dd 33 rfl)
 refine ja st6 ?_
 have f6_1 := (Fm0.ext E5).other W6 (Or.inr (jid hw))
 have f6_2 : Fld Z h6 pa S3' S15' S4' (.ref b5) := (Fe0.ext E5).same W6
 have f6_3 := (Fs0.ext E5).other W6 (Or.inr (jie hw))
 have f6_5 := (Vd0.ext E5).other W6 ((Ne.symm (Exa.neArv (Ea0.ext E5) (Vd0.ext E5) ow2)))
 have f6_6 := V5.other W6 ((Ne.symm ne_pa_b5))
 have N6 := Fr.snoc X6 N4 g_pa
 have Z6 : n0 ≤ h6.size := Nat.le_trans Z5 (Keep.of_wr W6).1
 have K6 : Keep h0 h6 [pa] := K5.wr W6 (Or.inl (List.mem_of_getElem? (i := 0) rfl))
 refine jE X6 hx Bd hPf (by decide) (by decide) rfl rfl rfl (dd 34 rfl) ?_
 rw [e6]
 exact ⟨b5, k5, rfl, N6, K6, sz_b5, (Q5.wr W6), O5, f6_6, f6_1, f6_2, f6_3⟩
abbrev jfF (m : MethodId) (pc : Nat) (a0 : Slot) (S : List Value) : JFrame := mkF m pc #[a0] S
theorem oD38_7j : oDec jdk_38_method_7_code [(0, .aload_n 0, 1), (1, .aload_n 0, 1), (2, .getfield 48, 3), (5, .iconst 1, 1), (6, .iadd, 1), (7, .invokevirtual 69, 3), (10, .areturn, 1)] := by decide +kernel
theorem jaV : parseMethodDescriptor "(I)[Ljava/lang/Object;" = some ⟨[.int], some (.array (.object "java/lang/Object"))⟩ := by decide +kernel
def jih (Z : State) (pa : Addr) (de : Addr) (kd : ClassId) (mc : Int32) (h0 : Heap) (n0 : Nat) (v : Option Value) (h : Heap) (L : List Loc) : Prop := ∃ (ea : Addr) (ke : ClassId), v = some (.ref ea) ∧ Fr n0 L ∧ Keep h0 h [pa] ∧ h0.size ≤ ea ∧ Exa Z h ea S4' ∧ Ovr Z ke S0' ∧ Arv Z h ea ke (.object S0') (10 : Int32) [.null, .null, .null, .null, .null, .null, .null, .null, .null, .null] .null ∧ Fld Z h pa S19' S12' "I" (.int mc) ∧ Fld Z h pa S3' S15' S4' (.ref ea) ∧ Fld Z h pa S3' S8' "I" (.int 0)
theorem jgu (l : Launch) (Z : State) (a0 : Array Value) (hw : oH a0 Z) (ws : List Jvm.Cond) (pa : Addr) (de : Addr) (kd : ClassId) (mc : Int32) (h0 : Heap) (n0 : Nat) (Z0 : n0 ≤ h0.size) (Ea0 : Exa Z h0 pa S3') (Fm0 : Fld Z h0 pa S19' S12' "I" (.int mc)) (g_pa : n0 ≤ pa) (Fe0 : Fld Z h0 pa S3' S15' S4' (.ref de)) (Fs0 : Fld Z h0 pa S3' S8' "I" (.int 0)) (Sd0 : Sta Z h0 S3' S50' S4' (.ref de)) (Vd0 : Arv Z h0 de kd (.object S0') (0 : Int32) [] .null) :
  ji l Z (⟨S3', "grow", "()[Ljava/lang/Object;"⟩ : MethodName) jdk_38_method_7_code 1 (some (.array (.object S0'))) ws ({ frames := 2, cells := 1, slots := 10, locals := 29 } : Room) #[(.ref pa)] h0 (jih Z pa de kd mc h0 n0) := by
 refine jb (plainFor_of_name jf) (fun m => jr m pa) ?_
 intro p e s m below meth c s₁ Bd hx hby hml hown hZ X0 e0 Pf hPf
 have N0 := Fr.nil n0
 have dd := oD38_7j.hb hby
 have ow2 := ow hw 2 rfl
 have ow3 := ow hw 3 rfl
 have ow58 := ow hw 58 rfl
 have ow62 := ow hw 62 rfl
 have ow74 := ow hw 74 rfl
 have ow75 := ow hw 75 rfl
 have ow76 := ow hw 76 rfl
 have ow78 := ow hw 78 rfl
 refine ja (A := oW p e below s₁ (jfF m 2 (oR pa) [(.ref pa), (.ref pa)])) (fun t k => by
  refine XS.aloadN X0.here hx rfl (dd 0 rfl) rfl rfl ?_
  refine XS.aloadN X0.here hx rfl (dd 1 rfl) rfl rfl ?_
  exact k) ?_
 obtain ⟨T1, X1, e1, st1⟩ := getF X0 hx hZ hown (host := "") (Or.inl ow62) Via.refl e0 Fs0 (g := (jfF m 2 (oR pa) [(.ref pa), (.ref pa)])) rfl rfl (dd 2 rfl)
 refine ja st1 ?_
 refine ja (A := oW p e below T1 (jfF m 7 (oR pa) [(.int 1), (.ref pa)])) (fun t k => by
  refine XS.iconst X1.here hx rfl (dd 3 rfl) ?_
  refine XS.iadd X1.here hx rfl (dd 4 rfl) rfl ?_
  exact k) ?_
 obtain ⟨_, T2, L2, X2, hQ2, st2⟩ := jcL X1 hx hZ hown ow74 ow75 ow58 rfl ow76 ow78 ow3 (jgt l Z a0 hw [] pa de kd mc h0 n0 Z0 Ea0 Fm0 g_pa Fe0 Fs0 Sd0 Vd0) e1 Ea0 (by decide) (g := (jfF m 7 (oR pa) [(.int 1), (.ref pa)])) rfl (by rw [hml]; rfl) (rest := []) rfl (lenOf jaV rfl) rfl (W := 0) (Nat.le_of_eq rfl) (dd 5 rfl) (by decide)
 obtain ⟨e2a, k2a, rfl, N2q, K2q, s_e2a, p2_0, p2_1, p2_2, p2_3, p2_4, p2_5⟩ := hQ2
 have N2 := Fr.app N0 N2q
 have g_e2a : n0 ≤ e2a := Nat.le_trans Z0 s_e2a
 have sz_e2a : h0.size ≤ e2a := Nat.le_trans (Keep.refl h0 [pa]).1 s_e2a
 have ne_pa_e2a : pa ≠ e2a := Nat.ne_of_lt (Nat.lt_of_lt_of_le Ea0.lt s_e2a)
 have ne_de_e2a : de ≠ e2a := Nat.ne_of_lt (Nat.lt_of_lt_of_le Vd0.lt s_e2a)
 have f2_4 := jC Sd0 K2q (allS (jaZ Ea0) all0)
 have f2_5 := Vd0.keep K2q (ninS (Ne.symm (Exa.neArv Ea0 Vd0 ow2)) nin0)
 have Z2 : n0 ≤ T2.heap.size := Nat.le_trans Z0 K2q.1
 have K2 : Keep h0 T2.heap [pa] := (Keep.refl h0 [pa]).trans K2q (allS (Or.inl (List.mem_of_getElem? (i := 0) rfl)) all0)
 refine ja st2 ?_
 refine jE X2 hx Bd hPf (by decide) (by decide) rfl rfl rfl (dd 6 rfl) ?_
 exact ⟨e2a, k2a, rfl, N2, K2, sz_e2a, p2_0, p2_1, p2_2, p2_3, p2_4, p2_5⟩
abbrev jbE (m : MethodId) (pc : Nat) (a0 a1 a2 a3 : Slot) (S : List Value) : JFrame := mkF m pc #[a0, a1, a2, a3] S
theorem oD38_24j : oDec jdk_38_method_24_code [(0, .iload_n 3, 1), (1, .aload_n 2, 1), (2, .arraylength, 1), (3, .if_icmp .ne 8, 3), (6, .aload_n 0, 1), (7, .invokevirtual 129, 3), (10, .astore_n 2, 1), (11, .aload_n 2, 1), (12, .iload_n 3, 1), (13, .aload_n 1, 1), (14, .aastore, 1), (15, .aload_n 0, 1), (16, .iload_n 3, 1), (17, .iconst 1, 1), (18, .iadd, 1), (19, .putfield 48, 3), (22, .return_, 1)] := by decide +kernel
theorem jR : parseMethodDescriptor "()[Ljava/lang/Object;" = some ⟨[], some (.array (.object "java/lang/Object"))⟩ := by decide +kernel
theorem jeI {a0 : Array Value} {Z : State} (hw : oH a0 Z) : jc Z S19' S12' "I" ≠ jc Z S3' S8' "I" := jg (C := S3') (Or.inl (ow hw 23 rfl)) (Or.inl (ow hw 63 rfl)) (by decide) rfl rfl
theorem jeJ {a0 : Array Value} {Z : State} (hw : oH a0 Z) : jc Z S3' S15' S4' ≠ jc Z S3' S8' "I" := jg (C := S3') (Or.inl (ow hw 26 rfl)) (Or.inl (ow hw 63 rfl)) (by decide) rfl rfl
theorem jbS (m : MethodId) (x0 : Addr) (x1 : Addr) (x2 : Addr) (x3 : Int32) : entryFrame m #[(.ref x0), (.ref x1), (.ref x2), (.int x3)] 4 = mkF m 0 #[(oR x0), (oR x1), (oR x2), (oi x3)] [] := by first | (simp [entryFrame, mkF, argsToLocals, Value.category]; done) | rfl
def jeK (Z : State) (pa : Addr) (pe : Addr) (de : Addr) (pcl : String) (mc : Int32) (de : Addr) (kd : ClassId) (h0 : Heap) (n0 : Nat) (v : Option Value) (h : Heap) (L : List Loc) : Prop := ∃ (ea : Addr) (ke : ClassId), v = none ∧ Fr n0 L ∧ Keep h0 h [pa] ∧ h0.size ≤ ea ∧ Exa Z h ea S4' ∧ Ovr Z ke S0' ∧ Arv Z h ea ke (.object S0') (10 : Int32) [(.ref pe), .null, .null, .null, .null, .null, .null, .null, .null, .null] .null ∧ Fld Z h pa S19' S12' "I" (.int mc) ∧ Fld Z h pa S3' S15' S4' (.ref ea) ∧ Fld Z h pa S3' S8' "I" (.int 1)
theorem jek (l : Launch) (Z : State) (a0 : Array Value) (hw : oH a0 Z) (ws : List Jvm.Cond) (pa : Addr) (pe : Addr) (de : Addr) (pcl : String) (mc : Int32) (de : Addr) (kd : ClassId) (h0 : Heap) (n0 : Nat) (Z0 : n0 ≤ h0.size) (Ea0 : Exa Z h0 pa S3') (Fm0 : Fld Z h0 pa S19' S12' "I" (.int mc)) (g_pa : n0 ≤ pa) (Fe0 : Fld Z h0 pa S3' S15' S4' (.ref de)) (Fs0 : Fld Z h0 pa S3' S8' "I" (.int 0)) (Ee0 : Exa Z h0 pe pcl) (wI : (Cond.castable pcl S0').before a0 Z = true) (Sd0 : Sta Z h0 S3' S50' S4' (.ref de)) (Vd0 : Arv Z h0 de kd (.object S0') (0 : Int32) [] .null) :
  ji l Z M0' jdk_38_method_24_code 4 none ws ({ frames := 3, cells := 1, slots := 10, locals := 41 } : Room) #[(.ref pa), (.ref pe), (.ref de), (.int 0)] h0 (jeK Z pa pe de pcl mc de kd h0 n0) := by
 refine jb (plainFor_of_name jf) (fun m => jbS m pa pe de (0 : Int32)) ?_
 intro p e s m below meth c s₁ Bd hx hby hml hown hZ X0 e0 Pf hPf
 have N0 := Fr.nil n0
 have dd := oD38_24j.hb hby
 have ow2 := ow hw 2 rfl
 have ow3 := ow hw 3 rfl
 have ow58 := ow hw 58 rfl
 have ow62 := ow hw 62 rfl
 have ow63 := ow hw 63 rfl
 have ow69 := ow hw 69 rfl
 have ow70 := ow hw 70 rfl
 have ow71 := ow hw 71 rfl
 have ow73 := ow hw 73 rfl
 refine ja (A := oW p e below s₁ (jbE m 7 (oR pa) (oR pe) (oR de) (oi 0) [(.ref pa)])) (fun t k => by
  refine XS.iloadN X0.here hx rfl (dd 0 rfl) rfl ?_
  refine XS.aloadN X0.here hx rfl (dd 1 rfl) rfl rfl ?_
  refine jM X0 hx hZ e0 Vd0 (g := (jbE m 2 (oR pa) (oR pe) (oR de) (oi 0) [(.ref de), (.int 0)])) rfl rfl (dd 2 rfl) _ ?_
  refine XS.icmpNo X0.here hx rfl (dd 3 rfl) rfl (teq (by decide : (0 : Int32) = (0 : Int32))).2 ?_
  refine XS.aloadN X0.here hx rfl (dd 4 rfl) rfl rfl ?_
  exact k) ?_
 obtain ⟨_, T1, L1, X1, hQ1, st1⟩ := jcL X0 hx hZ hown ow69 ow70 ow58 rfl ow71 ow73 ow3 (jgu l Z a0 hw [] pa de kd mc h0 n0 Z0 Ea0 Fm0 g_pa Fe0 Fs0 Sd0 Vd0) e0 Ea0 (by decide) (g := (jbE m 7 (oR pa) (oR pe) (oR de) (oi 0) [(.ref pa)])) rfl (by rw [hml]; rfl) (rest := []) rfl (lenOf jR rfl) rfl (W := 0) (Nat.le_of_eq rfl) (dd 5 rfl) (by decide)
 obtain ⟨e1a, k1a, rfl, N1q, K1q, s_e1a, p1_0, p1_1, p1_2, p1_3, p1_4, p1_5⟩ := hQ1
 have N1 := Fr.app N0 N1q
 have g_e1a : n0 ≤ e1a := Nat.le_trans Z0 s_e1a
 have sz_e1a : h0.size ≤ e1a := Nat.le_trans (Keep.refl h0 [pa]).1 s_e1a
 have ne_pa_e1a : pa ≠ e1a := Nat.ne_of_lt (Nat.lt_of_lt_of_le Ea0.lt s_e1a)
 have ne_de_e1a : de ≠ e1a := Nat.ne_of_lt (Nat.lt_of_lt_of_le Vd0.lt s_e1a)
 have f1_5 := jC Sd0 K1q (allS (jaZ Ea0) all0)
 have f1_6 := Vd0.keep K1q (ninS (Ne.symm (Exa.neArv Ea0 Vd0 ow2)) nin0)
 have Z1 : n0 ≤ T1.heap.size := Nat.le_trans Z0 K1q.1
 have K1 : Keep h0 T1.heap [pa] := (Keep.refl h0 [pa]).trans K1q (allS (Or.inl (List.mem_of_getElem? (i := 0) rfl)) all0)
 refine ja st1 ?_
 refine ja (A := oW p e below T1 (jbE m 14 (oR pa) (oR pe) (oR e1a) (oi 0) [(.ref pe), (.int 0), (.ref e1a)])) (fun t k => by
  refine XS.astoreN X1.here hx rfl (dd 6 rfl) rfl rfl (l' := #[(oR pa), (oR pe), (oR e1a), (oi 0)]) rfl ?_
  refine XS.aloadN X1.here hx rfl (dd 7 rfl) rfl rfl ?_
  refine XS.iloadN X1.here hx rfl (dd 8 rfl) rfl ?_
  refine XS.aloadN X1.here hx rfl (dd 9 rfl) rfl rfl ?_
  exact k) ?_
 obtain ⟨cl2, Ar2, q2, S2, N2, H2, G2⟩ := id (p1_2)
 have hi2 : ¬ ((0 : Int32) < 0 ∨ cl2.slots.size ≤ ((0 : Int32)).toNatClampNeg) := inb_of S2 ⟨by decide, by decide⟩
 obtain ⟨T3, h3, X3, e3, W3, st3⟩ := stR X1 hx hZ rfl Ar2 (j := (0 : Int32)) hi2 rfl (Sto.ofV Ar2 q2 p1_1 (Ins.of_exa (Ee0.keep K1q) wI)) (g := (jbE m 14 (oR pa) (oR pe) (oR e1a) (oi 0) [(.ref pe), (.int 0), (.ref e1a)])) rfl rfl (dd 10 rfl)
 refine ja st3 ?_
 have V3 : Arv Z h3 e1a k1a (.object S0') (10 : Int32) [(.ref pe), .null, .null, .null, .null, .null, .null, .null, .null, .null] .null := Arv.set Ar2 q2 S2 N2 H2 G2 rfl W3 0 rfl (Nat.le_of_ble_eq_true rfl)
 have f3_3 := f1_6.other W3 (ne_de_e1a)
 have f3_6 := p1_3.other W3 (Or.inl ne_pa_e1a)
 have f3_7 := p1_4.other W3 (Or.inl ne_pa_e1a)
 have f3_8 := p1_5.other W3 (Or.inl ne_pa_e1a)
 have N3 := Fr.snoc X3 N1 g_e1a
 have Z3 : n0 ≤ h3.size := Nat.le_trans Z1 (Keep.of_wr W3).1
 have K3 : Keep h0 h3 [pa] := K1.wr W3 (Or.inr sz_e1a)
 refine ja (A := oW p e below T3 (jbE m 19 (oR pa) (oR pe) (oR e1a) (oi 0) [(.int 1), (.ref pa)])) (fun t k => by
  refine XS.aloadN X3.here hx rfl (dd 11 rfl) rfl rfl ?_
  show oW p e below T3 (jbE m 16 (oR pa) (oR pe) (oR e1a) (oi 0) [(.ref pa)]) _
  refine XS.iloadN X3.here hx rfl (dd 12 rfl) rfl ?_
  refine XS.iconst X3.here hx rfl (dd 13 rfl) ?_
  refine XS.iadd X3.here hx rfl (dd 14 rfl) rfl ?_
  exact k) ?_
 obtain ⟨T4, h4, X4, e4, W4, st4⟩ := putF X3 hx hZ hown (host := "") (Or.inl ow62) Via.refl e3 f3_8 ((Ea0.keep K1q).wr W3) (Or.inl ow63) ow2 (ty := .int) (by decide) rfl rfl (g := (jbE m 19 (oR pa) (oR pe) (oR e1a) (oi 0) [(.int 1), (.ref pa)])) rfl rfl (dd 15 rfl)
 refine ja st4 ?_
 have f4_3 := f3_3.other W4 ((Ne.symm (Exa.neArv ((Ea0.keep K1q).wr W3) f3_3 ow2)))
 have f4_5 := V3.other W4 ((Ne.symm ne_pa_e1a))
 have f4_6 := f3_6.other W4 (Or.inr (jeI hw))
 have f4_7 := f3_7.other W4 (Or.inr (jeJ hw))
 have f4_8 : Fld Z h4 pa S3' S8' "I" (.int 1) := f3_8.same W4
 have N4 := Fr.snoc X4 N3 g_pa
 have Z4 : n0 ≤ h4.size := Nat.le_trans Z3 (Keep.of_wr W4).1
 have K4 : Keep h0 h4 [pa] := K3.wr W4 (Or.inl (List.mem_of_getElem? (i := 0) rfl))
 refine jaa X4 hx Bd hPf (by decide) (by decide) (dd 16 rfl) ?_
 rw [e4]
 exact ⟨e1a, k1a, rfl, N4, K4, sz_e1a, ((p1_0.wr W3).wr W4), p1_1, f4_5, f4_6, f4_7, f4_8⟩
abbrev jba (m : MethodId) (pc : Nat) (a0 a1 : Slot) (S : List Value) : JFrame := mkF m pc #[a0, a1] S
theorem oD38_25j : oDec jdk_38_method_25_code [(0, .aload_n 0, 1), (1, .dup, 1), (2, .getfield 63, 3), (5, .iconst 1, 1), (6, .iadd, 1), (7, .putfield 63, 3), (10, .aload_n 0, 1), (11, .aload_n 1, 1), (12, .aload_n 0, 1), (13, .getfield 9, 3), (16, .aload_n 0, 1), (17, .getfield 48, 3), (20, .invokevirtual 131, 3), (23, .iconst 1, 1), (24, .ireturn, 1)] := by decide +kernel
theorem jA : parseMethodDescriptor "(Ljava/lang/Object;[Ljava/lang/Object;I)V" = some ⟨[(.object "java/lang/Object"), (.array (.object "java/lang/Object")), .int], none⟩ := by decide +kernel
theorem jar (m : MethodId) (x0 : Addr) (x1 : Addr) : entryFrame m #[(.ref x0), (.ref x1)] 2 = mkF m 0 #[(oR x0), (oR x1)] [] := by first | (simp [entryFrame, mkF, argsToLocals, Value.category]; done) | rfl
def jeL (Z : State) (pa : Addr) (pe : Addr) (pcl : String) (mc : Int32) (de : Addr) (kd : ClassId) (h0 : Heap) (n0 : Nat) (v : Option Value) (h : Heap) (L : List Loc) : Prop := ∃ (ea : Addr) (ke : ClassId), v = some (.int 1) ∧ Fr n0 L ∧ Keep h0 h [pa] ∧ h0.size ≤ ea ∧ Exa Z h ea S4' ∧ Ovr Z ke S0' ∧ Arv Z h ea ke (.object S0') (10 : Int32) [(.ref pe), .null, .null, .null, .null, .null, .null, .null, .null, .null] .null ∧ Fld Z h pa S19' S12' "I" (.int (mc + (1 : Int32))) ∧ Fld Z h pa S3' S15' S4' (.ref ea) ∧ Fld Z h pa S3' S8' "I" (.int 1)
theorem jdd (l : Launch) (Z : State) (a0 : Array Value) (hw : oH a0 Z) (ws : List Jvm.Cond) (pa : Addr) (pe : Addr) (pcl : String) (mc : Int32) (de : Addr) (kd : ClassId) (h0 : Heap) (n0 : Nat) (Z0 : n0 ≤ h0.size) (Ea0 : Exa Z h0 pa S3') (Fm0 : Fld Z h0 pa S19' S12' "I" (.int mc)) (g_pa : n0 ≤ pa) (Fe0 : Fld Z h0 pa S3' S15' S4' (.ref de)) (Fs0 : Fld Z h0 pa S3' S8' "I" (.int 0)) (Ee0 : Exa Z h0 pe pcl) (wI : (Cond.castable pcl S0').before a0 Z = true) (Sd0 : Sta Z h0 S3' S50' S4' (.ref de)) (Vd0 : Arv Z h0 de kd (.object S0') (0 : Int32) [] .null) :
  ji l Z M1' jdk_38_method_25_code 2 (some .boolean) ws ({ frames := 4, cells := 1, slots := 10, locals := 56 } : Room) #[(.ref pa), (.ref pe)] h0 (jeL Z pa pe pcl mc de kd h0 n0) := by
 refine jb (plainFor_of_name jf) (fun m => jar m pa pe) ?_
 intro p e s m below meth c s₁ Bd hx hby hml hown hZ X0 e0 Pf hPf
 have N0 := Fr.nil n0
 have dd := oD38_25j.hb hby
 have ow2 := ow hw 2 rfl
 have ow3 := ow hw 3 rfl
 have ow23 := ow hw 23 rfl
 have ow25 := ow hw 25 rfl
 have ow58 := ow hw 58 rfl
 have ow60 := ow hw 60 rfl
 have ow61 := ow hw 61 rfl
 have ow62 := ow hw 62 rfl
 have ow64 := ow hw 64 rfl
 have ow65 := ow hw 65 rfl
 have ow66 := ow hw 66 rfl
 have ow68 := ow hw 68 rfl
 refine ja (A := oW p e below s₁ (jba m 2 (oR pa) (oR pe) [(.ref pa), (.ref pa)])) (fun t k => by
  refine XS.aloadN X0.here hx rfl (dd 0 rfl) rfl rfl ?_
  refine XS.dup X0.here hx rfl (dd 1 rfl) rfl rfl ?_
  exact k) ?_
 obtain ⟨T1, X1, e1, st1⟩ := getF X0 hx hZ hown (host := "") (Or.inl ow60) (Via.of ow61) e0 Fm0 (g := (jba m 2 (oR pa) (oR pe) [(.ref pa), (.ref pa)])) rfl rfl (dd 2 rfl)
 refine ja st1 ?_
 refine ja (A := oW p e below T1 (jba m 7 (oR pa) (oR pe) [(.int (mc + (1 : Int32))), (.ref pa)])) (fun t k => by
  refine XS.iconst X1.here hx rfl (dd 3 rfl) ?_
  refine XS.iadd X1.here hx rfl (dd 4 rfl) rfl ?_
  exact k) ?_
 obtain ⟨T2, h2, X2, e2, W2, st2⟩ := putF X1 hx hZ hown (host := "") (Or.inl ow60) (Via.of ow61) e1 Fm0 Ea0 (Or.inl ow23) ow2 (ty := .int) (by decide) rfl rfl (g := (jba m 7 (oR pa) (oR pe) [(.int (mc + (1 : Int32))), (.ref pa)])) rfl rfl (dd 5 rfl)
 refine ja st2 ?_
 have f2_1 : Fld Z h2 pa S19' S12' "I" (.int (mc + (1 : Int32))) := Fm0.same W2
 have f2_2 := Fe0.other W2 (Or.inr (jdP hw))
 have f2_3 := Fs0.other W2 (Or.inr (jdQ hw))
 have f2_6 := Vd0.other W2 ((Ne.symm (Exa.neArv Ea0 Vd0 ow2)))
 have N2 := Fr.snoc X2 N0 g_pa
 have Z2 : n0 ≤ h2.size := Nat.le_trans Z0 (Keep.of_wr W2).1
 have K2 : Keep h0 h2 [pa] := (Keep.refl h0 [pa]).wr W2 (Or.inl (List.mem_of_getElem? (i := 0) rfl))
 refine ja (A := oW p e below T2 (jba m 13 (oR pa) (oR pe) [(.ref pa), (.ref pe), (.ref pa)])) (fun t k => by
  refine XS.aloadN X2.here hx rfl (dd 6 rfl) rfl rfl ?_
  show oW p e below T2 (jba m 11 (oR pa) (oR pe) [(.ref pa)]) _
  refine XS.aloadN X2.here hx rfl (dd 7 rfl) rfl rfl ?_
  refine XS.aloadN X2.here hx rfl (dd 8 rfl) rfl rfl ?_
  exact k) ?_
 obtain ⟨T3, X3, e3, st3⟩ := getF X2 hx hZ hown (host := "") (Or.inl ow25) Via.refl e2 f2_2 (g := (jba m 13 (oR pa) (oR pe) [(.ref pa), (.ref pe), (.ref pa)])) rfl rfl (dd 9 rfl)
 refine ja st3 ?_
 refine ja (A := oW p e below T3 (jba m 17 (oR pa) (oR pe) [(.ref pa), (.ref de), (.ref pe), (.ref pa)])) (fun t k => by
  refine XS.aloadN X3.here hx rfl (dd 10 rfl) rfl rfl ?_
  exact k) ?_
 obtain ⟨T4, X4, e4, st4⟩ := getF X3 hx hZ hown (host := "") (Or.inl ow62) Via.refl e3 f2_3 (g := (jba m 17 (oR pa) (oR pe) [(.ref pa), (.ref de), (.ref pe), (.ref pa)])) rfl rfl (dd 11 rfl)
 refine ja st4 ?_
 obtain ⟨_, T5, L5, X5, hQ5, st5⟩ := jcL X4 hx hZ hown ow64 ow65 ow58 rfl ow66 ow68 ow3 (jek l Z a0 hw [] pa pe de pcl (mc + (1 : Int32)) de kd h2 n0 Z2 (Ea0.wr W2) f2_1 g_pa f2_2 f2_3 (Ee0.wr W2) wI (Sd0.wr W2) f2_6) e4 (Ea0.wr W2) (by decide) (g := (jba m 20 (oR pa) (oR pe) [(.int 0), (.ref de), (.ref pe), (.ref pa)])) rfl (by rw [hml]; rfl) (rest := []) rfl (lenOf jA rfl) rfl (W := 0) (Nat.le_of_eq rfl) (dd 12 rfl) (by decide)
 obtain ⟨e5a, k5a, rfl, N5q, K5q, s_e5a, p5_0, p5_1, p5_2, p5_3, p5_4, p5_5⟩ := hQ5
 have N5 := Fr.app N2 N5q
 have g_e5a : n0 ≤ e5a := Nat.le_trans Z2 s_e5a
 have sz_e5a : h0.size ≤ e5a := Nat.le_trans K2.1 s_e5a
 have ne_pa_e5a : pa ≠ e5a := Nat.ne_of_lt (Nat.lt_of_lt_of_le (Ea0.wr W2).lt s_e5a)
 have ne_de_e5a : de ≠ e5a := Nat.ne_of_lt (Nat.lt_of_lt_of_le f2_6.lt s_e5a)
 have f5_5 := jC (Sd0.wr W2) K5q (allS (jaZ (Ea0.wr W2)) all0)
 have f5_6 := f2_6.keep K5q (ninS (Ne.symm (Exa.neArv (Ea0.wr W2) f2_6 ow2)) nin0)
 have Z5 : n0 ≤ T5.heap.size := Nat.le_trans Z2 K5q.1
 have K5 : Keep h0 T5.heap [pa] := K2.trans K5q (allS (Or.inl (List.mem_of_getElem? (i := 0) rfl)) all0)
 refine ja st5 ?_
 refine ja (A := oW p e below T5 (jba m 24 (oR pa) (oR pe) [(.int 1)])) (fun t k => by
  refine XS.iconst X5.here hx rfl (dd 13 rfl) ?_
  exact k) ?_
 refine jaw X5 hx Bd (by simp) hPf (by decide) (by decide) (dd 14 rfl) ?_
 exact ⟨e5a, k5a, rfl, N5, K5, sz_e5a, p5_0, p5_1, p5_2, p5_3, p5_4, p5_5⟩
abbrev jbT (m : MethodId) (pc : Nat) (a0 a1 a2 a3 : Slot) (S : List Value) : JFrame := mkF m pc #[a0, a1, a2, a3] S
def jeM (Z : State) (pa : Addr) (pe : Addr) (ea : Addr) (pcl : String) (mc : Int32) (ea : Addr) (ke : ClassId) (x0a : Addr) (h0 : Heap) (n0 : Nat) (v : Option Value) (h : Heap) (L : List Loc) : Prop := v = none ∧ Fr n0 L ∧ Keep h0 h [pa, ea] ∧ Arv Z h ea ke (.object S0') (10 : Int32) [(.ref x0a), (.ref pe), .null, .null, .null, .null, .null, .null, .null, .null] .null ∧ Fld Z h pa S19' S12' "I" (.int mc) ∧ Fld Z h pa S3' S15' S4' (.ref ea) ∧ Fld Z h pa S3' S8' "I" (.int 2)
theorem jel (l : Launch) (Z : State) (a0 : Array Value) (hw : oH a0 Z) (ws : List Jvm.Cond) (pa : Addr) (pe : Addr) (ea : Addr) (pcl : String) (mc : Int32) (ea : Addr) (ke : ClassId) (x0a : Addr) (h0 : Heap) (n0 : Nat) (Z0 : n0 ≤ h0.size) (Ea0 : Exa Z h0 pa S3') (Fm0 : Fld Z h0 pa S19' S12' "I" (.int mc)) (g_pa : n0 ≤ pa) (Fe0 : Fld Z h0 pa S3' S15' S4' (.ref ea)) (Fs0 : Fld Z h0 pa S3' S8' "I" (.int 1)) (Ee0 : Exa Z h0 pe pcl) (wI : (Cond.castable pcl S0').before a0 Z = true) (Eo0 : Exa Z h0 ea S4') (Ov0 : Ovr Z ke S0') (Vo0 : Arv Z h0 ea ke (.object S0') (10 : Int32) [(.ref x0a), .null, .null, .null, .null, .null, .null, .null, .null, .null] .null) (g_ea : n0 ≤ ea) :
  ji l Z M0' jdk_38_method_24_code 4 none ws ({ frames := 0, cells := 0, slots := 0, locals := 0 } : Room) #[(.ref pa), (.ref pe), (.ref ea), (.int 1)] h0 (jeM Z pa pe ea pcl mc ea ke x0a h0 n0) := by
 refine jb (plainFor_of_name jf) (fun m => jbS m pa pe ea (1 : Int32)) ?_
 intro p e s m below meth c s₁ Bd hx hby hml hown hZ X0 e0 Pf hPf
 have N0 := Fr.nil n0
 have dd := oD38_24j.hb hby
 have ow2 := ow hw 2 rfl
 have ow62 := ow hw 62 rfl
 have ow63 := ow hw 63 rfl
 refine ja (A := oW p e below s₁ (jbT m 14 (oR pa) (oR pe) (oR ea) (oi 1) [(.ref pe), (.int 1), (.ref ea)])) (fun t k => by
  refine XS.iloadN X0.here hx rfl (dd 0 rfl) rfl ?_
  refine XS.aloadN X0.here hx rfl (dd 1 rfl) rfl rfl ?_
  refine jM X0 hx hZ e0 Vo0 (g := (jbT m 2 (oR pa) (oR pe) (oR ea) (oi 1) [(.ref ea), (.int 1)])) rfl rfl (dd 2 rfl) _ ?_
  refine XS.icmpYes X0.here hx rfl (pc0 := 3) (pc' := 11) rfl (dd 3 rfl) rfl (feq (by decide : ¬ ((1 : Int32) = (10 : Int32)))).2 (by decide) (by decide) ?_
  refine XS.aloadN X0.here hx rfl (dd 7 rfl) rfl rfl ?_
  show oW p e below s₁ (jbT m 12 (oR pa) (oR pe) (oR ea) (oi 1) [(.ref ea)]) _
  refine XS.iloadN X0.here hx rfl (dd 8 rfl) rfl ?_
  refine XS.aloadN X0.here hx rfl (dd 9 rfl) rfl rfl ?_
  exact k) ?_
 obtain ⟨cl1, Ar1, q1, S1, N1, H1, G1⟩ := id (Vo0)
 have hi1 : ¬ ((1 : Int32) < 0 ∨ cl1.slots.size ≤ ((1 : Int32)).toNatClampNeg) := inb_of S1 ⟨by decide, by decide⟩
 obtain ⟨T2, h2, X2, e2, W2, st2⟩ := stR X0 hx hZ e0 Ar1 (j := (1 : Int32)) hi1 rfl (Sto.ofV Ar1 q1 Ov0 (Ins.of_exa Ee0 wI)) (g := (jbT m 14 (oR pa) (oR pe) (oR ea) (oi 1) [(.ref pe), (.int 1), (.ref ea)])) rfl rfl (dd 10 rfl)
 refine ja st2 ?_
 have V2 : Arv Z h2 ea ke (.object S0') (10 : Int32) [(.ref x0a), (.ref pe), .null, .null, .null, .null, .null, .null, .null, .null] .null := Arv.set Ar1 q1 S1 N1 H1 G1 rfl W2 1 rfl (Nat.le_of_ble_eq_true rfl)
 have f2_1 := Fm0.other W2 (Or.inl (Exa.ne Ea0 Eo0 (by decide)))
 have f2_2 := Fe0.other W2 (Or.inl (Exa.ne Ea0 Eo0 (by decide)))
 have f2_3 := Fs0.other W2 (Or.inl (Exa.ne Ea0 Eo0 (by decide)))
 have N2 := Fr.snoc X2 N0 g_ea
 have Z2 : n0 ≤ h2.size := Nat.le_trans Z0 (Keep.of_wr W2).1
 have K2 : Keep h0 h2 [pa, ea] := (Keep.refl h0 [pa, ea]).wr W2 (Or.inl (List.mem_of_getElem? (i := 1) rfl))
 refine ja (A := oW p e below T2 (jbT m 19 (oR pa) (oR pe) (oR ea) (oi 1) [(.int 2), (.ref pa)])) (fun t k => by
  refine XS.aloadN X2.here hx rfl (dd 11 rfl) rfl rfl ?_
  refine XS.iloadN X2.here hx rfl (dd 12 rfl) rfl ?_
  refine XS.iconst X2.here hx rfl (dd 13 rfl) ?_
  show oW p e below T2 (jbT m 18 (oR pa) (oR pe) (oR ea) (oi 1) [(.int 1), (.int 1), (.ref pa)]) _
  refine XS.iadd X2.here hx rfl (dd 14 rfl) rfl ?_
  exact k) ?_
 obtain ⟨T3, h3, X3, e3, W3, st3⟩ := putF X2 hx hZ hown (host := "") (Or.inl ow62) Via.refl e2 f2_3 (Ea0.wr W2) (Or.inl ow63) ow2 (ty := .int) (by decide) rfl rfl (g := (jbT m 19 (oR pa) (oR pe) (oR ea) (oi 1) [(.int 2), (.ref pa)])) rfl rfl (dd 15 rfl)
 refine ja st3 ?_
 have f3_1 := f2_1.other W3 (Or.inr (jeI hw))
 have f3_2 := f2_2.other W3 (Or.inr (jeJ hw))
 have f3_3 : Fld Z h3 pa S3' S8' "I" (.int 2) := f2_3.same W3
 have f3_6 := V2.other W3 ((Exa.ne (Eo0.wr W2) (Ea0.wr W2) (by decide)))
 have N3 := Fr.snoc X3 N2 g_pa
 have Z3 : n0 ≤ h3.size := Nat.le_trans Z2 (Keep.of_wr W3).1
 have K3 : Keep h0 h3 [pa, ea] := K2.wr W3 (Or.inl (List.mem_of_getElem? (i := 0) rfl))
 refine jaa X3 hx Bd hPf (by decide) (by decide) (dd 16 rfl) ?_
 rw [e3]
 exact ⟨rfl, N3, K3, f3_6, f3_1, f3_2, f3_3⟩
abbrev jbb (m : MethodId) (pc : Nat) (a0 a1 : Slot) (S : List Value) : JFrame := mkF m pc #[a0, a1] S
def jeN (Z : State) (pa : Addr) (pe : Addr) (pcl : String) (mc : Int32) (ea : Addr) (ke : ClassId) (x0a : Addr) (h0 : Heap) (n0 : Nat) (v : Option Value) (h : Heap) (L : List Loc) : Prop := v = some (.int 1) ∧ Fr n0 L ∧ Keep h0 h [pa, ea] ∧ Arv Z h ea ke (.object S0') (10 : Int32) [(.ref x0a), (.ref pe), .null, .null, .null, .null, .null, .null, .null, .null] .null ∧ Fld Z h pa S19' S12' "I" (.int (mc + (1 : Int32))) ∧ Fld Z h pa S3' S15' S4' (.ref ea) ∧ Fld Z h pa S3' S8' "I" (.int 2)
theorem jde (l : Launch) (Z : State) (a0 : Array Value) (hw : oH a0 Z) (ws : List Jvm.Cond) (pa : Addr) (pe : Addr) (pcl : String) (mc : Int32) (ea : Addr) (ke : ClassId) (x0a : Addr) (h0 : Heap) (n0 : Nat) (Z0 : n0 ≤ h0.size) (Ea0 : Exa Z h0 pa S3') (Fm0 : Fld Z h0 pa S19' S12' "I" (.int mc)) (g_pa : n0 ≤ pa) (Fe0 : Fld Z h0 pa S3' S15' S4' (.ref ea)) (Fs0 : Fld Z h0 pa S3' S8' "I" (.int 1)) (Ee0 : Exa Z h0 pe pcl) (wI : (Cond.castable pcl S0').before a0 Z = true) (Eo0 : Exa Z h0 ea S4') (Ov0 : Ovr Z ke S0') (Vo0 : Arv Z h0 ea ke (.object S0') (10 : Int32) [(.ref x0a), .null, .null, .null, .null, .null, .null, .null, .null, .null] .null) (g_ea : n0 ≤ ea) :
  ji l Z M1' jdk_38_method_25_code 2 (some .boolean) ws ({ frames := 1, cells := 0, slots := 0, locals := 15 } : Room) #[(.ref pa), (.ref pe)] h0 (jeN Z pa pe pcl mc ea ke x0a h0 n0) := by
 refine jb (plainFor_of_name jf) (fun m => jar m pa pe) ?_
 intro p e s m below meth c s₁ Bd hx hby hml hown hZ X0 e0 Pf hPf
 have N0 := Fr.nil n0
 have dd := oD38_25j.hb hby
 have ow2 := ow hw 2 rfl
 have ow3 := ow hw 3 rfl
 have ow23 := ow hw 23 rfl
 have ow25 := ow hw 25 rfl
 have ow58 := ow hw 58 rfl
 have ow60 := ow hw 60 rfl
 have ow61 := ow hw 61 rfl
 have ow62 := ow hw 62 rfl
 have ow64 := ow hw 64 rfl
 have ow65 := ow hw 65 rfl
 have ow66 := ow hw 66 rfl
 have ow68 := ow hw 68 rfl
 refine ja (A := oW p e below s₁ (jbb m 2 (oR pa) (oR pe) [(.ref pa), (.ref pa)])) (fun t k => by
  refine XS.aloadN X0.here hx rfl (dd 0 rfl) rfl rfl ?_
  refine XS.dup X0.here hx rfl (dd 1 rfl) rfl rfl ?_
  exact k) ?_
 obtain ⟨T1, X1, e1, st1⟩ := getF X0 hx hZ hown (host := "") (Or.inl ow60) (Via.of ow61) e0 Fm0 (g := (jbb m 2 (oR pa) (oR pe) [(.ref pa), (.ref pa)])) rfl rfl (dd 2 rfl)
 refine ja st1 ?_
 refine ja (A := oW p e below T1 (jbb m 7 (oR pa) (oR pe) [(.int (mc + (1 : Int32))), (.ref pa)])) (fun t k => by
  refine XS.iconst X1.here hx rfl (dd 3 rfl) ?_
  refine XS.iadd X1.here hx rfl (dd 4 rfl) rfl ?_
  exact k) ?_
 obtain ⟨T2, h2, X2, e2, W2, st2⟩ := putF X1 hx hZ hown (host := "") (Or.inl ow60) (Via.of ow61) e1 Fm0 Ea0 (Or.inl ow23) ow2 (ty := .int) (by decide) rfl rfl (g := (jbb m 7 (oR pa) (oR pe) [(.int (mc + (1 : Int32))), (.ref pa)])) rfl rfl (dd 5 rfl)
 refine ja st2 ?_
 have f2_1 : Fld Z h2 pa S19' S12' "I" (.int (mc + (1 : Int32))) := Fm0.same W2
 have f2_2 := Fe0.other W2 (Or.inr (jdP hw))
 have f2_3 := Fs0.other W2 (Or.inr (jdQ hw))
 have f2_6 := Vo0.other W2 ((Exa.ne Eo0 Ea0 (by decide)))
 have N2 := Fr.snoc X2 N0 g_pa
 have Z2 : n0 ≤ h2.size := Nat.le_trans Z0 (Keep.of_wr W2).1
 have K2 : Keep h0 h2 [pa, ea] := (Keep.refl h0 [pa, ea]).wr W2 (Or.inl (List.mem_of_getElem? (i := 0) rfl))
 refine ja (A := oW p e below T2 (jbb m 13 (oR pa) (oR pe) [(.ref pa), (.ref pe), (.ref pa)])) (fun t k => by
  refine XS.aloadN X2.here hx rfl (dd 6 rfl) rfl rfl ?_
  show oW p e below T2 (jbb m 11 (oR pa) (oR pe) [(.ref pa)]) _
  refine XS.aloadN X2.here hx rfl (dd 7 rfl) rfl rfl ?_
  refine XS.aloadN X2.here hx rfl (dd 8 rfl) rfl rfl ?_
  exact k) ?_
 obtain ⟨T3, X3, e3, st3⟩ := getF X2 hx hZ hown (host := "") (Or.inl ow25) Via.refl e2 f2_2 (g := (jbb m 13 (oR pa) (oR pe) [(.ref pa), (.ref pe), (.ref pa)])) rfl rfl (dd 9 rfl)
 refine ja st3 ?_
 refine ja (A := oW p e below T3 (jbb m 17 (oR pa) (oR pe) [(.ref pa), (.ref ea), (.ref pe), (.ref pa)])) (fun t k => by
  refine XS.aloadN X3.here hx rfl (dd 10 rfl) rfl rfl ?_
  exact k) ?_
 obtain ⟨T4, X4, e4, st4⟩ := getF X3 hx hZ hown (host := "") (Or.inl ow62) Via.refl e3 f2_3 (g := (jbb m 17 (oR pa) (oR pe) [(.ref pa), (.ref ea), (.ref pe), (.ref pa)])) rfl rfl (dd 11 rfl)
 refine ja st4 ?_
 obtain ⟨_, T5, L5, X5, hQ5, st5⟩ := jcL X4 hx hZ hown ow64 ow65 ow58 rfl ow66 ow68 ow3 (jel l Z a0 hw [] pa pe ea pcl (mc + (1 : Int32)) ea ke x0a h2 n0 Z2 (Ea0.wr W2) f2_1 g_pa f2_2 f2_3 (Ee0.wr W2) wI (Eo0.wr W2) Ov0 f2_6 g_ea) e4 (Ea0.wr W2) (by decide) (g := (jbb m 20 (oR pa) (oR pe) [(.int 1), (.ref ea), (.ref pe), (.ref pa)])) rfl (by rw [hml]; rfl) (rest := []) rfl (lenOf jA rfl) rfl (W := 0) (Nat.le_of_eq rfl) (dd 12 rfl) (by decide)
 obtain ⟨rfl, N5q, K5q, p5_2, p5_3, p5_4, p5_5⟩ := hQ5
 have N5 := Fr.app N2 N5q
 have Z5 : n0 ≤ T5.heap.size := Nat.le_trans Z2 K5q.1
 have K5 : Keep h0 T5.heap [pa, ea] := K2.trans K5q (allS (Or.inl (List.mem_of_getElem? (i := 0) rfl)) (allS (Or.inl (List.mem_of_getElem? (i := 1) rfl)) all0))
 refine ja st5 ?_
 refine ja (A := oW p e below T5 (jbb m 24 (oR pa) (oR pe) [(.int 1)])) (fun t k => by
  refine XS.iconst X5.here hx rfl (dd 13 rfl) ?_
  exact k) ?_
 refine jaw X5 hx Bd (by simp) hPf (by decide) (by decide) (dd 14 rfl) ?_
 exact ⟨rfl, N5, K5, p5_2, p5_3, p5_4, p5_5⟩
abbrev jbU (m : MethodId) (pc : Nat) (a0 a1 a2 a3 : Slot) (S : List Value) : JFrame := mkF m pc #[a0, a1, a2, a3] S
def jeO (Z : State) (pa : Addr) (pe : Addr) (ea : Addr) (pcl : String) (mc : Int32) (ea : Addr) (ke : ClassId) (x0a x1a : Addr) (h0 : Heap) (n0 : Nat) (v : Option Value) (h : Heap) (L : List Loc) : Prop := v = none ∧ Fr n0 L ∧ Keep h0 h [pa, ea] ∧ Arv Z h ea ke (.object S0') (10 : Int32) [(.ref x0a), (.ref x1a), (.ref pe), .null, .null, .null, .null, .null, .null, .null] .null ∧ Fld Z h pa S19' S12' "I" (.int mc) ∧ Fld Z h pa S3' S15' S4' (.ref ea) ∧ Fld Z h pa S3' S8' "I" (.int 3)
theorem jem (l : Launch) (Z : State) (a0 : Array Value) (hw : oH a0 Z) (ws : List Jvm.Cond) (pa : Addr) (pe : Addr) (ea : Addr) (pcl : String) (mc : Int32) (ea : Addr) (ke : ClassId) (x0a x1a : Addr) (h0 : Heap) (n0 : Nat) (Z0 : n0 ≤ h0.size) (Ea0 : Exa Z h0 pa S3') (Fm0 : Fld Z h0 pa S19' S12' "I" (.int mc)) (g_pa : n0 ≤ pa) (Fe0 : Fld Z h0 pa S3' S15' S4' (.ref ea)) (Fs0 : Fld Z h0 pa S3' S8' "I" (.int 2)) (Ee0 : Exa Z h0 pe pcl) (wI : (Cond.castable pcl S0').before a0 Z = true) (Eo0 : Exa Z h0 ea S4') (Ov0 : Ovr Z ke S0') (Vo0 : Arv Z h0 ea ke (.object S0') (10 : Int32) [(.ref x0a), (.ref x1a), .null, .null, .null, .null, .null, .null, .null, .null] .null) (g_ea : n0 ≤ ea) :
  ji l Z M0' jdk_38_method_24_code 4 none ws ({ frames := 0, cells := 0, slots := 0, locals := 0 } : Room) #[(.ref pa), (.ref pe), (.ref ea), (.int 2)] h0 (jeO Z pa pe ea pcl mc ea ke x0a x1a h0 n0) := by
 refine jb (plainFor_of_name jf) (fun m => jbS m pa pe ea (2 : Int32)) ?_
 intro p e s m below meth c s₁ Bd hx hby hml hown hZ X0 e0 Pf hPf
 have N0 := Fr.nil n0
 have dd := oD38_24j.hb hby
 have ow2 := ow hw 2 rfl
 have ow62 := ow hw 62 rfl
 have ow63 := ow hw 63 rfl
 refine ja (A := oW p e below s₁ (jbU m 14 (oR pa) (oR pe) (oR ea) (oi 2) [(.ref pe), (.int 2), (.ref ea)])) (fun t k => by
  refine XS.iloadN X0.here hx rfl (dd 0 rfl) rfl ?_
  refine XS.aloadN X0.here hx rfl (dd 1 rfl) rfl rfl ?_
  refine jM X0 hx hZ e0 Vo0 (g := (jbU m 2 (oR pa) (oR pe) (oR ea) (oi 2) [(.ref ea), (.int 2)])) rfl rfl (dd 2 rfl) _ ?_
  refine XS.icmpYes X0.here hx rfl (pc0 := 3) (pc' := 11) rfl (dd 3 rfl) rfl (feq (by decide : ¬ ((2 : Int32) = (10 : Int32)))).2 (by decide) (by decide) ?_
  refine XS.aloadN X0.here hx rfl (dd 7 rfl) rfl rfl ?_
  show oW p e below s₁ (jbU m 12 (oR pa) (oR pe) (oR ea) (oi 2) [(.ref ea)]) _
  refine XS.iloadN X0.here hx rfl (dd 8 rfl) rfl ?_
  refine XS.aloadN X0.here hx rfl (dd 9 rfl) rfl rfl ?_
  exact k) ?_
 obtain ⟨cl1, Ar1, q1, S1, N1, H1, G1⟩ := id (Vo0)
 have hi1 : ¬ ((2 : Int32) < 0 ∨ cl1.slots.size ≤ ((2 : Int32)).toNatClampNeg) := inb_of S1 ⟨by decide, by decide⟩
 obtain ⟨T2, h2, X2, e2, W2, st2⟩ := stR X0 hx hZ e0 Ar1 (j := (2 : Int32)) hi1 rfl (Sto.ofV Ar1 q1 Ov0 (Ins.of_exa Ee0 wI)) (g := (jbU m 14 (oR pa) (oR pe) (oR ea) (oi 2) [(.ref pe), (.int 2), (.ref ea)])) rfl rfl (dd 10 rfl)
 refine ja st2 ?_
 have V2 : Arv Z h2 ea ke (.object S0') (10 : Int32) [(.ref x0a), (.ref x1a), (.ref pe), .null, .null, .null, .null, .null, .null, .null] .null := Arv.set Ar1 q1 S1 N1 H1 G1 rfl W2 2 rfl (Nat.le_of_ble_eq_true rfl)
 have f2_1 := Fm0.other W2 (Or.inl (Exa.ne Ea0 Eo0 (by decide)))
 have f2_2 := Fe0.other W2 (Or.inl (Exa.ne Ea0 Eo0 (by decide)))
 have f2_3 := Fs0.other W2 (Or.inl (Exa.ne Ea0 Eo0 (by decide)))
 have N2 := Fr.snoc X2 N0 g_ea
 have Z2 : n0 ≤ h2.size := Nat.le_trans Z0 (Keep.of_wr W2).1
 have K2 : Keep h0 h2 [pa, ea] := (Keep.refl h0 [pa, ea]).wr W2 (Or.inl (List.mem_of_getElem? (i := 1) rfl))
 refine ja (A := oW p e below T2 (jbU m 19 (oR pa) (oR pe) (oR ea) (oi 2) [(.int 3), (.ref pa)])) (fun t k => by
  refine XS.aloadN X2.here hx rfl (dd 11 rfl) rfl rfl ?_
  refine XS.iloadN X2.here hx rfl (dd 12 rfl) rfl ?_
  refine XS.iconst X2.here hx rfl (dd 13 rfl) ?_
  show oW p e below T2 (jbU m 18 (oR pa) (oR pe) (oR ea) (oi 2) [(.int 1), (.int 2), (.ref pa)]) _
  refine XS.iadd X2.here hx rfl (dd 14 rfl) rfl ?_
  exact k) ?_
 obtain ⟨T3, h3, X3, e3, W3, st3⟩ := putF X2 hx hZ hown (host := "") (Or.inl ow62) Via.refl e2 f2_3 (Ea0.wr W2) (Or.inl ow63) ow2 (ty := .int) (by decide) rfl rfl (g := (jbU m 19 (oR pa) (oR pe) (oR ea) (oi 2) [(.int 3), (.ref pa)])) rfl rfl (dd 15 rfl)
 refine ja st3 ?_
 have f3_1 := f2_1.other W3 (Or.inr (jeI hw))
 have f3_2 := f2_2.other W3 (Or.inr (jeJ hw))
 have f3_3 : Fld Z h3 pa S3' S8' "I" (.int 3) := f2_3.same W3
 have f3_6 := V2.other W3 ((Exa.ne (Eo0.wr W2) (Ea0.wr W2) (by decide)))
 have N3 := Fr.snoc X3 N2 g_pa
 have Z3 : n0 ≤ h3.size := Nat.le_trans Z2 (Keep.of_wr W3).1
 have K3 : Keep h0 h3 [pa, ea] := K2.wr W3 (Or.inl (List.mem_of_getElem? (i := 0) rfl))
 refine jaa X3 hx Bd hPf (by decide) (by decide) (dd 16 rfl) ?_
 rw [e3]
 exact ⟨rfl, N3, K3, f3_6, f3_1, f3_2, f3_3⟩
abbrev jbc (m : MethodId) (pc : Nat) (a0 a1 : Slot) (S : List Value) : JFrame := mkF m pc #[a0, a1] S
def jeP (Z : State) (pa : Addr) (pe : Addr) (pcl : String) (mc : Int32) (ea : Addr) (ke : ClassId) (x0a x1a : Addr) (h0 : Heap) (n0 : Nat) (v : Option Value) (h : Heap) (L : List Loc) : Prop := v = some (.int 1) ∧ Fr n0 L ∧ Keep h0 h [pa, ea] ∧ Arv Z h ea ke (.object S0') (10 : Int32) [(.ref x0a), (.ref x1a), (.ref pe), .null, .null, .null, .null, .null, .null, .null] .null ∧ Fld Z h pa S19' S12' "I" (.int (mc + (1 : Int32))) ∧ Fld Z h pa S3' S15' S4' (.ref ea) ∧ Fld Z h pa S3' S8' "I" (.int 3)
theorem jdf (l : Launch) (Z : State) (a0 : Array Value) (hw : oH a0 Z) (ws : List Jvm.Cond) (pa : Addr) (pe : Addr) (pcl : String) (mc : Int32) (ea : Addr) (ke : ClassId) (x0a x1a : Addr) (h0 : Heap) (n0 : Nat) (Z0 : n0 ≤ h0.size) (Ea0 : Exa Z h0 pa S3') (Fm0 : Fld Z h0 pa S19' S12' "I" (.int mc)) (g_pa : n0 ≤ pa) (Fe0 : Fld Z h0 pa S3' S15' S4' (.ref ea)) (Fs0 : Fld Z h0 pa S3' S8' "I" (.int 2)) (Ee0 : Exa Z h0 pe pcl) (wI : (Cond.castable pcl S0').before a0 Z = true) (Eo0 : Exa Z h0 ea S4') (Ov0 : Ovr Z ke S0') (Vo0 : Arv Z h0 ea ke (.object S0') (10 : Int32) [(.ref x0a), (.ref x1a), .null, .null, .null, .null, .null, .null, .null, .null] .null) (g_ea : n0 ≤ ea) :
  ji l Z M1' jdk_38_method_25_code 2 (some .boolean) ws ({ frames := 1, cells := 0, slots := 0, locals := 15 } : Room) #[(.ref pa), (.ref pe)] h0 (jeP Z pa pe pcl mc ea ke x0a x1a h0 n0) := by
 refine jb (plainFor_of_name jf) (fun m => jar m pa pe) ?_
 intro p e s m below meth c s₁ Bd hx hby hml hown hZ X0 e0 Pf hPf
 have N0 := Fr.nil n0
 have dd := oD38_25j.hb hby
 have ow2 := ow hw 2 rfl
 have ow3 := ow hw 3 rfl
 have ow23 := ow hw 23 rfl
 have ow25 := ow hw 25 rfl
 have ow58 := ow hw 58 rfl
 have ow60 := ow hw 60 rfl
 have ow61 := ow hw 61 rfl
 have ow62 := ow hw 62 rfl
 have ow64 := ow hw 64 rfl
 have ow65 := ow hw 65 rfl
 have ow66 := ow hw 66 rfl
 have ow68 := ow hw 68 rfl
 refine ja (A := oW p e below s₁ (jbc m 2 (oR pa) (oR pe) [(.ref pa), (.ref pa)])) (fun t k => by
  refine XS.aloadN X0.here hx rfl (dd 0 rfl) rfl rfl ?_
  refine XS.dup X0.here hx rfl (dd 1 rfl) rfl rfl ?_
  exact k) ?_
 obtain ⟨T1, X1, e1, st1⟩ := getF X0 hx hZ hown (host := "") (Or.inl ow60) (Via.of ow61) e0 Fm0 (g := (jbc m 2 (oR pa) (oR pe) [(.ref pa), (.ref pa)])) rfl rfl (dd 2 rfl)
 refine ja st1 ?_
 refine ja (A := oW p e below T1 (jbc m 7 (oR pa) (oR pe) [(.int (mc + (1 : Int32))), (.ref pa)])) (fun t k => by
  refine XS.iconst X1.here hx rfl (dd 3 rfl) ?_
  refine XS.iadd X1.here hx rfl (dd 4 rfl) rfl ?_
  exact k) ?_
 obtain ⟨T2, h2, X2, e2, W2, st2⟩ := putF X1 hx hZ hown (host := "") (Or.inl ow60) (Via.of ow61) e1 Fm0 Ea0 (Or.inl ow23) ow2 (ty := .int) (by decide) rfl rfl (g := (jbc m 7 (oR pa) (oR pe) [(.int (mc + (1 : Int32))), (.ref pa)])) rfl rfl (dd 5 rfl)
 refine ja st2 ?_
 have f2_1 : Fld Z h2 pa S19' S12' "I" (.int (mc + (1 : Int32))) := Fm0.same W2
 have f2_2 := Fe0.other W2 (Or.inr (jdP hw))
 have f2_3 := Fs0.other W2 (Or.inr (jdQ hw))
 have f2_6 := Vo0.other W2 ((Exa.ne Eo0 Ea0 (by decide)))
 have N2 := Fr.snoc X2 N0 g_pa
 have Z2 : n0 ≤ h2.size := Nat.le_trans Z0 (Keep.of_wr W2).1
 have K2 : Keep h0 h2 [pa, ea] := (Keep.refl h0 [pa, ea]).wr W2 (Or.inl (List.mem_of_getElem? (i := 0) rfl))
 refine ja (A := oW p e below T2 (jbc m 13 (oR pa) (oR pe) [(.ref pa), (.ref pe), (.ref pa)])) (fun t k => by
  refine XS.aloadN X2.here hx rfl (dd 6 rfl) rfl rfl ?_
  show oW p e below T2 (jbc m 11 (oR pa) (oR pe) [(.ref pa)]) _
  refine XS.aloadN X2.here hx rfl (dd 7 rfl) rfl rfl ?_
  refine XS.aloadN X2.here hx rfl (dd 8 rfl) rfl rfl ?_
  exact k) ?_
 obtain ⟨T3, X3, e3, st3⟩ := getF X2 hx hZ hown (host := "") (Or.inl ow25) Via.refl e2 f2_2 (g := (jbc m 13 (oR pa) (oR pe) [(.ref pa), (.ref pe), (.ref pa)])) rfl rfl (dd 9 rfl)
 refine ja st3 ?_
 refine ja (A := oW p e below T3 (jbc m 17 (oR pa) (oR pe) [(.ref pa), (.ref ea), (.ref pe), (.ref pa)])) (fun t k => by
  refine XS.aloadN X3.here hx rfl (dd 10 rfl) rfl rfl ?_
  exact k) ?_
 obtain ⟨T4, X4, e4, st4⟩ := getF X3 hx hZ hown (host := "") (Or.inl ow62) Via.refl e3 f2_3 (g := (jbc m 17 (oR pa) (oR pe) [(.ref pa), (.ref ea), (.ref pe), (.ref pa)])) rfl rfl (dd 11 rfl)
 refine ja st4 ?_
 obtain ⟨_, T5, L5, X5, hQ5, st5⟩ := jcL X4 hx hZ hown ow64 ow65 ow58 rfl ow66 ow68 ow3 (jem l Z a0 hw [] pa pe ea pcl (mc + (1 : Int32)) ea ke x0a x1a h2 n0 Z2 (Ea0.wr W2) f2_1 g_pa f2_2 f2_3 (Ee0.wr W2) wI (Eo0.wr W2) Ov0 f2_6 g_ea) e4 (Ea0.wr W2) (by decide) (g := (jbc m 20 (oR pa) (oR pe) [(.int 2), (.ref ea), (.ref pe), (.ref pa)])) rfl (by rw [hml]; rfl) (rest := []) rfl (lenOf jA rfl) rfl (W := 0) (Nat.le_of_eq rfl) (dd 12 rfl) (by decide)
 obtain ⟨rfl, N5q, K5q, p5_2, p5_3, p5_4, p5_5⟩ := hQ5
 have N5 := Fr.app N2 N5q
 have Z5 : n0 ≤ T5.heap.size := Nat.le_trans Z2 K5q.1
 have K5 : Keep h0 T5.heap [pa, ea] := K2.trans K5q (allS (Or.inl (List.mem_of_getElem? (i := 0) rfl)) (allS (Or.inl (List.mem_of_getElem? (i := 1) rfl)) all0))
 refine ja st5 ?_
 refine ja (A := oW p e below T5 (jbc m 24 (oR pa) (oR pe) [(.int 1)])) (fun t k => by
  refine XS.iconst X5.here hx rfl (dd 13 rfl) ?_
  exact k) ?_
 refine jaw X5 hx Bd (by simp) hPf (by decide) (by decide) (dd 14 rfl) ?_
 exact ⟨rfl, N5, K5, p5_2, p5_3, p5_4, p5_5⟩
def jab (Z : State) (h : Heap) (x : Addr) (L : List String) : Prop := ∃ C, Exa Z h x C ∧ C ∉ L
theorem jV {Z : State} {h : Heap} {ws : List Addr} {L : List String} {y : Addr} {D : String} (N : ∀ x ∈ ws, jab Z h x L) (E : Exa Z h y D) (hD : D ∈ L) : y ∉ ws := fun q => by
 obtain ⟨C, e, hC⟩ := N y q
 exact Exa.ne e E (fun z => hC (z ▸ hD)) rfl
def jn (Z : State) (n0 : Nat) (h : Heap) (a : Addr) (c : Int32) : Prop := n0 ≤ a ∧ Exa Z h a S2' ∧ Fld Z h a S2' "coder" "B" (.int 0) ∧ Fld Z h a S2' S51' "Z" (.int 0) ∧
 (∃ hv, Fld Z h a S2' "hash" "I" (.int hv) ∧ (hv = 0 ∨ hv = c)) ∧ ∃ b kb, Fld Z h a S2' S21' "[B" (.ref b) ∧ Exa Z h b "[B" ∧ Arv Z h b kb .byte 1 [.int c] (.int 0)
theorem jn.ext {Z : State} {n0 : Nat} {h h' : Heap} {a : Addr} {c : Int32} (S : jn Z n0 h a c) (E : Ext h h') : jn Z n0 h' a c := by
 obtain ⟨g, e, f1, f2, ⟨hv, f3, q⟩, b, kb, f4, e2, v⟩ := S
 exact ⟨g, e.ext E, f1.ext E, f2.ext E, ⟨hv, f3.ext E, q⟩, b, kb, f4.ext E, e2.ext E, v.ext E⟩
theorem jn.keep {Z : State} {n0 : Nat} {h h' : Heap} {a : Addr} {c : Int32} {ws : List Addr} (S : jn Z n0 h a c) (K : Keep h h' ws) (N : ∀ x ∈ ws, jab Z h x [S2', "[B"]) : jn Z n0 h' a c := by
 obtain ⟨g, e, f1, f2, ⟨hv, f3, q⟩, b, kb, f4, e2, v⟩ := S
 have na := jV N e (by simp)
 exact ⟨g, e.keep K, f1.keep K na, f2.keep K na, ⟨hv, f3.keep K na, q⟩, b, kb, f4.keep K na, e2.keep K, v.keep K (jV N e2 (by simp))⟩
theorem jn.inj {Z : State} {n0 n1 : Nat} {h : Heap} {a : Addr} {c d : Int32} (S : jn Z n0 h a c) (S' : jn Z n1 h a d) : c = d := by
 obtain ⟨-, -, -, -, -, b, kb, f4, -, cl, A, -, s1, -, H, -⟩ := S
 obtain ⟨-, -, -, -, -, b', kb', f4', -, cl', A', -, s1', -, H', -⟩ := S'
 have eb : b = b' := by
  apply Classical.byContradiction
  intro q
  exact Fld.ne f4 f4' (fun z => q (Value.ref.inj z)) rfl
 subst eb
 cases A.1.symm.trans A'.1
 have z : 0 < cl.slots.size := by rw [s1]; decide
 have q := (H 0 z).symm.trans (H' 0 z)
 exact Value.int.inj (Option.some.inj q)
theorem jn.keepS {Z : State} {n0 : Nat} {h h' : Heap} {a x : Addr} {c d : Int32} (S : jn Z n0 h a c) (K : Keep h h' [x]) (S0 : jn Z n0 h x d) (S1 : jn Z n0 h' x d) : jn Z n0 h' a c := by
 by_cases q : a = x
 · subst q; rw [S.inj S0]; exact S1
 ·
  obtain ⟨g, e, f1, f2, ⟨hv, f3, r⟩, b, kb, f4, e2, v⟩ := S
  have na : a ∉ [x] := ninS q nin0
  exact ⟨g, e.keep K, f1.keep K na, f2.keep K na, ⟨hv, f3.keep K na, r⟩, b, kb, f4.keep K na, e2.keep K, v.keep K (ninS (Exa.ne e2 S0.2.1 (by decide)) nin0)⟩
def jaL (c : Int32) : Prop := c = 97 ∨ c = 98 ∨ c = 99 ∨ c = 84
theorem jlt {c : Int32} (h : jaL c) : nar .byte (c.toInt8.toInt32) = c := by rcases h with rfl | rfl | rfl | rfl <;> rfl
theorem jlu {c : Int32} (h : jaL c) : ¬ (255 : Int32) < c := by rcases h with rfl | rfl | rfl | rfl <;> decide
theorem jjz {c : Int32} (h : jaL c) : c &&& 255 = c := by rcases h with rfl | rfl | rfl | rfl <;> rfl
theorem jlv {c : Int32} (h : jaL c) : ¬ c = 0 := by rcases h with rfl | rfl | rfl | rfl <;> decide
theorem jlw {c : Int32} (h : jaL c) : c ^^^ ((c.toUInt32 >>> ((16 : Int32) &&& 31).toUInt32).toInt32) = c := by rcases h with rfl | rfl | rfl | rfl <;> rfl
abbrev jkY (m : MethodId) (pc : Nat) (a0 : Slot) (S : List Value) : JFrame := mkF m pc #[a0] S
theorem oD43_3j : oDec jdk_43_method_3_code [(0, .iload_n 0, 1), (1, .sipush 255, 3), (4, .if_icmp .gt 7, 3), (7, .iconst 1, 1), (8, .goto 4, 3), (11, .iconst 0, 1), (12, .ireturn, 1)] := by decide +kernel
theorem jbx (m : MethodId) (x0 : Int32) : entryFrame m #[(.int x0)] 1 = mkF m 0 #[(oi x0)] [] := by first | (simp [entryFrame, mkF, argsToLocals, Value.category]; done) | rfl
def jgv (Z : State) (cc : Int32)  (h0 : Heap) (n0 : Nat) (v : Option Value) (h : Heap) (L : List Loc) : Prop := v = some (.int 1) ∧ Fr n0 L ∧ h = h0
theorem jW : plainName "java/lang/StringLatin1" = true := by first | (simp [plainName, overriddenIn]; done) | decide +kernel
theorem jeQ (l : Launch) (Z : State) (a0 : Array Value) (hw : oH a0 Z) (ws : List Jvm.Cond) (cc : Int32)  (h0 : Heap) (n0 : Nat) (Z0 : n0 ≤ h0.size) (hcc : jaL cc) :
  ji l Z (⟨S57', "canEncode", "(C)Z"⟩ : MethodName) jdk_43_method_3_code 1 (some .boolean) ws ({ frames := 0, cells := 0, slots := 0, locals := 0 } : Room) #[(.int cc)] h0 (jgv Z cc h0 n0) := by
 refine jb (plainFor_of_name jW) (fun m => jbx m cc) ?_
 intro p e s m below meth c s₁ Bd hx hby hml hown hZ X0 e0 Pf hPf
 have N0 := Fr.nil n0
 have dd := oD43_3j.hb hby
 refine ja (A := oW p e below s₁ (jkY m 12 (oi cc) [(.int 1)])) (fun t k => by
  refine XS.iloadN X0.here hx rfl (dd 0 rfl) rfl ?_
  refine XS.sipush X0.here hx rfl (dd 1 rfl) ?_
  refine XS.icmpNo X0.here hx rfl (dd 2 rfl) rfl (flt (jlu hcc)).2.2.1 ?_
  refine XS.iconst X0.here hx rfl (dd 3 rfl) ?_
  refine XS.goto X0.here hx rfl (pc0 := 8) (pc' := 12) rfl (dd 4 rfl) (by decide) (by decide) ?_
  exact k) ?_
 refine jaw X0 hx Bd (by simp) hPf (by decide) (by decide) (dd 6 rfl) ?_
 rw [e0]
 exact ⟨rfl, N0, rfl⟩
abbrev jfG (m : MethodId) (pc : Nat) (a0 : Slot) (S : List Value) : JFrame := mkF m pc #[a0] S
theorem oD43_46j : oDec jdk_43_method_46_code [(0, .iconst 1, 1), (1, .newarray .byte, 2), (3, .dup, 1), (4, .iconst 0, 1), (5, .iload_n 0, 1), (6, .i2b, 1), (7, .bastore, 1), (8, .areturn, 1)] := by decide +kernel
def jii (Z : State) (cc : Int32)  (h0 : Heap) (n0 : Nat) (v : Option Value) (h : Heap) (L : List Loc) : Prop := ∃ (vb : Addr) (kv : ClassId), v = some (.ref vb) ∧ Fr n0 L ∧ Keep h0 h [] ∧ h0.size ≤ vb ∧ Exa Z h vb "[B" ∧ Arv Z h vb kv .byte (1 : Int32) [.int cc] (.int 0)
theorem jgw (l : Launch) (Z : State) (a0 : Array Value) (hw : oH a0 Z) (ws : List Jvm.Cond) (cc : Int32)  (h0 : Heap) (n0 : Nat) (Z0 : n0 ≤ h0.size) (hcc : jaL cc) :
  ji l Z (⟨S57', "toBytes", "(C)[B"⟩ : MethodName) jdk_43_method_46_code 1 (some (.array .byte)) ws ({ frames := 0, cells := 1, slots := 1, locals := 0 } : Room) #[(.int cc)] h0 (jii Z cc h0 n0) := by
 refine jb (plainFor_of_name jW) (fun m => jbx m cc) ?_
 intro p e s m below meth c s₁ Bd hx hby hml hown hZ X0 e0 Pf hPf
 have N0 := Fr.nil n0
 have dd := oD43_46j.hb hby
 have ow45 := ow hw 45 rfl
 refine ja (A := oW p e below s₁ (jfG m 1 (oi cc) [(.int 1)])) (fun t k => by
  refine XS.iconst X0.here hx rfl (dd 0 rfl) ?_
  exact k) ?_
 obtain ⟨T1, h1, k1, X1, e1, E1, A1, Q1, st1⟩ := newPE X0 hx hZ (aty := .byte) ow45 e0 (g := (jfG m 1 (oi cc) [(.int 1)])) rfl (dd 1 rfl) rfl (by decide) (cap := 1) (by decide) (by decide) (by decide) (by decide) (ad := "[B") (by decide)
 obtain ⟨b1, g1⟩ : ∃ z, z = h0.size := ⟨_, rfl⟩
 rw [← g1] at A1 Q1 st1
 refine ja st1 ?_
 have g_b1 : n0 ≤ b1 := Nat.le_trans Z0 (Nat.le_of_eq g1.symm)
 have Z1 : n0 ≤ h1.size := Nat.le_trans Z0 E1.1
 have sz_b1 : h0.size ≤ b1 := Nat.le_trans (Keep.refl h0 []).1 (Nat.le_of_eq g1.symm)
 have K1 : Keep h0 h1 [] := (Keep.refl h0 []).ext E1
 have U1 : Arv Z h1 b1 k1 .byte (1 : Int32) [] (.int 0) := Arv.new A1 (by decide)
 have V1 : Arv Z h1 b1 k1 .byte (1 : Int32) [(.int 0)] (.int 0) := U1.pad (pad_rep [] (.int 0) 1)
 refine ja (A := oW p e below T1 (jfG m 7 (oi cc) [(.int cc.toInt8.toInt32), (.int 0), (.ref b1), (.ref b1)])) (fun t k => by
  refine XS.dup X1.here hx rfl (dd 2 rfl) rfl rfl ?_
  refine XS.iconst X1.here hx rfl (dd 3 rfl) ?_
  refine XS.iloadN X1.here hx rfl (dd 4 rfl) rfl ?_
  refine XS.i2b X1.here hx rfl (dd 5 rfl) rfl ?_
  exact k) ?_
 obtain ⟨cl2, Ar2, q2, S2, N2, H2, G2⟩ := id (V1)
 have hi2 : ¬ ((0 : Int32) < 0 ∨ cl2.slots.size ≤ ((0 : Int32)).toNatClampNeg) := inb_of S2 ⟨by decide, by decide⟩
 obtain ⟨T3, h3, X3, e3, W3, st3⟩ := stB X1 hx hZ e1 Ar2 (j := (0 : Int32)) hi2 (g := (jfG m 7 (oi cc) [(.int cc.toInt8.toInt32), (.int 0), (.ref b1), (.ref b1)])) rfl rfl (dd 6 rfl)
 refine ja st3 ?_
 have V3 : Arv Z h3 b1 k1 .byte (1 : Int32) [(.int (nar .byte cc.toInt8.toInt32))] (.int 0) := Arv.set Ar2 q2 S2 N2 H2 G2 (fits_nar_byte _) W3 0 rfl (Nat.le_of_ble_eq_true rfl)
 have N3 := Fr.snoc X3 N0 g_b1
 have Z3 : n0 ≤ h3.size := Nat.le_trans Z1 (Keep.of_wr W3).1
 have K3 : Keep h0 h3 [] := K1.wr W3 (Or.inr sz_b1)
 refine jE X3 hx Bd hPf (by decide) (by decide) rfl rfl rfl (dd 7 rfl) ?_
 rw [e3]
 exact ⟨b1, k1, rfl, N3, K3, sz_b1, (Q1.wr W3), by have q := V3; rw [jlt hcc] at q; exact q⟩
abbrev jdA (m : MethodId) (pc : Nat) (a0 a1 a2 : Slot) (S : List Value) : JFrame := mkF m pc #[a0, a1, a2] S
theorem oD42_151j : oDec jdk_42_method_151_code [(0, .aload_n 0, 1), (1, .invokespecial 1, 3), (4, .aload_n 0, 1), (5, .aload_n 1, 1), (6, .putfield 9, 3), (9, .aload_n 0, 1), (10, .iload_n 2, 1), (11, .putfield 15, 3), (14, .return_, 1)] := by decide +kernel
theorem jkZ {a0 : Array Value} {Z : State} (hw : oH a0 Z) : jc Z S2' "coder" "B" ≠ jc Z S2' S21' "[B" := jg (C := S2') (Or.inr (ow hw 54 rfl)) (Or.inr (ow hw 52 rfl)) (by decide) rfl rfl
theorem jla {a0 : Array Value} {Z : State} (hw : oH a0 Z) : jc Z S2' "hash" "I" ≠ jc Z S2' S21' "[B" := jg (C := S2') (Or.inl (ow hw 344 rfl)) (Or.inr (ow hw 52 rfl)) (by decide) rfl rfl
theorem jlb {a0 : Array Value} {Z : State} (hw : oH a0 Z) : jc Z S2' S51' "Z" ≠ jc Z S2' S21' "[B" := jg (C := S2') (Or.inl (ow hw 346 rfl)) (Or.inr (ow hw 52 rfl)) (by decide) rfl rfl
theorem jlc {a0 : Array Value} {Z : State} (hw : oH a0 Z) : jc Z S2' S21' "[B" ≠ jc Z S2' "coder" "B" := jg (C := S2') (Or.inr (ow hw 52 rfl)) (Or.inr (ow hw 54 rfl)) (by decide) rfl rfl
theorem jjA {a0 : Array Value} {Z : State} (hw : oH a0 Z) : jc Z S2' "hash" "I" ≠ jc Z S2' "coder" "B" := jg (C := S2') (Or.inl (ow hw 344 rfl)) (Or.inr (ow hw 54 rfl)) (by decide) rfl rfl
theorem jjB {a0 : Array Value} {Z : State} (hw : oH a0 Z) : jc Z S2' S51' "Z" ≠ jc Z S2' "coder" "B" := jg (C := S2') (Or.inl (ow hw 346 rfl)) (Or.inr (ow hw 54 rfl)) (by decide) rfl rfl
theorem jci (m : MethodId) (x0 : Addr) (x1 : Addr) (x2 : Int32) : entryFrame m #[(.ref x0), (.ref x1), (.int x2)] 3 = mkF m 0 #[(oR x0), (oR x1), (oi x2)] [] := by first | (simp [entryFrame, mkF, argsToLocals, Value.category]; done) | rfl
def jij (Z : State) (so : Addr) (vb : Addr)  (h0 : Heap) (n0 : Nat) (v : Option Value) (h : Heap) (L : List Loc) : Prop := v = none ∧ Fr n0 L ∧ Keep h0 h [so] ∧ Fld Z h so S2' "coder" "B" (.int 0) ∧ Fld Z h so S2' S51' "Z" (.int 0) ∧ Fld Z h so S2' "hash" "I" (.int 0) ∧ Fld Z h so S2' S21' "[B" (.ref vb)
theorem jac : plainName "java/lang/String" = true := by first | (simp [plainName, overriddenIn]; done) | decide +kernel
theorem jgx (l : Launch) (Z : State) (a0 : Array Value) (hw : oH a0 Z) (ws : List Jvm.Cond) (so : Addr) (vb : Addr)  (h0 : Heap) (n0 : Nat) (Z0 : n0 ≤ h0.size) (Eo0 : Exa Z h0 so S2') (Foc : Fld Z h0 so S2' "coder" "B" (.int 0)) (Fov : Fld Z h0 so S2' S21' "[B" .null) (Foh : Fld Z h0 so S2' "hash" "I" (.int 0)) (Foz : Fld Z h0 so S2' S51' "Z" (.int 0)) (g_so : n0 ≤ so) :
  ji l Z (⟨S2', S27', "([BB)V"⟩ : MethodName) jdk_42_method_151_code 3 none ws ({ frames := 1, cells := 0, slots := 0, locals := 12 } : Room) #[(.ref so), (.ref vb), (.int 0)] h0 (jij Z so vb h0 n0) := by
 refine jb (plainFor_of_name jac) (fun m => jci m so vb (0 : Int32)) ?_
 intro p e s m below meth c s₁ Bd hx hby hml hown hZ X0 e0 Pf hPf
 have N0 := Fr.nil n0
 have dd := oD42_151j.hb hby
 have hnm := (name_of_methodNamed Bd.named Bd.method).1
 have ow20 := ow hw 20 rfl
 have ow21 := ow hw 21 rfl
 have ow41 := ow hw 41 rfl
 have ow50 := ow hw 50 rfl
 have ow51 := ow hw 51 rfl
 have ow52 := ow hw 52 rfl
 have ow53 := ow hw 53 rfl
 have ow54 := ow hw 54 rfl
 refine ja (A := oW p e below s₁ (jdA m 1 (oR so) (oR vb) (oi 0) [(.ref so)])) (fun t k => by
  refine XS.aloadN X0.here hx rfl (dd 0 rfl) rfl rfl ?_
  exact k) ?_
 obtain ⟨T1, X1, e1, st1⟩ := initO X0 hx hZ hown ow50 ow20 ow21 e0 (g := (jdA m 1 (oR so) (oR vb) (oi 0) [(.ref so)])) rfl (by rw [hml]; rfl) rfl (dd 1 rfl) (by decide) (W := 0) (by show 2 * 0 + _ ≤ _; exact Nat.le_of_eq rfl) (by decide)
 refine ja st1 ?_
 refine ja (A := oW p e below T1 (jdA m 6 (oR so) (oR vb) (oi 0) [(.ref vb), (.ref so)])) (fun t k => by
  refine XS.aloadN X1.here hx rfl (dd 2 rfl) rfl rfl ?_
  refine XS.aloadN X1.here hx rfl (dd 3 rfl) rfl rfl ?_
  exact k) ?_
 obtain ⟨T2, h2, X2, e2, W2, st2⟩ := putF X1 hx hZ hown (host := "") (Or.inl ow51) Via.refl e1 Fov Eo0 (Or.inr ⟨ow52, rfl, hnm⟩) ow41 (ty := (.array .byte)) (by decide) rfl rfl (g := (jdA m 6 (oR so) (oR vb) (oi 0) [(.ref vb), (.ref so)])) rfl rfl (dd 4 rfl)
 refine ja st2 ?_
 have f2_1 := Foc.other W2 (Or.inr (jkZ hw))
 have f2_2 : Fld Z h2 so S2' S21' "[B" (.ref vb) := Fov.same W2
 have f2_3 := Foh.other W2 (Or.inr (jla hw))
 have f2_4 := Foz.other W2 (Or.inr (jlb hw))
 have N2 := Fr.snoc X2 N0 g_so
 have Z2 : n0 ≤ h2.size := Nat.le_trans Z0 (Keep.of_wr W2).1
 have K2 : Keep h0 h2 [so] := (Keep.refl h0 [so]).wr W2 (Or.inl (List.mem_of_getElem? (i := 0) rfl))
 refine ja (A := oW p e below T2 (jdA m 11 (oR so) (oR vb) (oi 0) [(.int 0), (.ref so)])) (fun t k => by
  refine XS.aloadN X2.here hx rfl (dd 5 rfl) rfl rfl ?_
  refine XS.iloadN X2.here hx rfl (dd 6 rfl) rfl ?_
  exact k) ?_
 obtain ⟨T3, h3, X3, e3, W3, st3⟩ := putFN X2 hx hZ hown ow53 Via.refl e2 f2_1 (Eo0.wr W2) (Or.inr ⟨ow54, rfl, hnm⟩) ow41 (ty := .byte) (v' := .int (nar .byte (0 : Int32))) (by decide) rfl (fits_nar_byte _) (g := (jdA m 11 (oR so) (oR vb) (oi 0) [(.int 0), (.ref so)])) rfl rfl (dd 7 rfl)
 refine ja st3 ?_
 have f3_1 : Fld Z h3 so S2' "coder" "B" (.int 0) := f2_1.same W3
 have f3_2 := f2_2.other W3 (Or.inr (jlc hw))
 have f3_3 := f2_3.other W3 (Or.inr (jjA hw))
 have f3_4 := f2_4.other W3 (Or.inr (jjB hw))
 have N3 := Fr.snoc X3 N2 g_so
 have Z3 : n0 ≤ h3.size := Nat.le_trans Z2 (Keep.of_wr W3).1
 have K3 : Keep h0 h3 [so] := K2.wr W3 (Or.inl (List.mem_of_getElem? (i := 0) rfl))
 refine jaa X3 hx Bd hPf (by decide) (by decide) (dd 8 rfl) ?_
 rw [e3]
 exact ⟨rfl, N3, K3, f3_1, f3_4, f3_3, f3_2⟩
abbrev jcM (m : MethodId) (pc : Nat) (a0 : Slot) (S : List Value) : JFrame := mkF m pc #[a0] S
theorem oD42_139j : oDec jdk_42_method_139_code [(0, .getstatic 38, 3), (3, .ifCond .eq 23, 3), (6, .iload_n 0, 1), (7, .invokestatic 1015, 3), (10, .ifCond .eq 16, 3), (13, .new 10, 3), (16, .dup, 1), (17, .iload_n 0, 1), (18, .invokestatic 1018, 3), (21, .iconst 0, 1), (22, .invokespecial 209, 3), (25, .areturn, 1), (26, .new 10, 3), (29, .dup, 1), (30, .iload_n 0, 1), (31, .invokestatic 1021, 3), (34, .iconst 1, 1), (35, .invokespecial 209, 3), (38, .areturn, 1)] := by decide +kernel
theorem jdR : parseMethodDescriptor "(C)Z" = some ⟨[.char], some .boolean⟩ := by decide +kernel
theorem jdj : parseMethodDescriptor "(C)[B" = some ⟨[.char], some (.array .byte)⟩ := by decide +kernel
theorem jdh : parseMethodDescriptor "([BB)V" = some ⟨[(.array .byte), .byte], none⟩ := by decide +kernel
def jik (Z : State) (cc : Int32) (cz : Int32) (h0 : Heap) (n0 : Nat) (v : Option Value) (h : Heap) (L : List Loc) : Prop := ∃ so : Addr, v = some (.ref so) ∧ Fr n0 L ∧ Keep h0 h [] ∧ h0.size ≤ so ∧ jn Z n0 h so cc
theorem jdB (l : Launch) (Z : State) (a0 : Array Value) (hw : oH a0 Z) (ws : List Jvm.Cond) (cc : Int32) (cz : Int32) (h0 : Heap) (n0 : Nat) (Z0 : n0 ≤ h0.size) (Sc0 : Sta Z h0 S2' S26' "Z" (.int cz)) (hcz : ¬ cz = (0 : Int32)) (hcc : jaL cc) :
  ji l Z (⟨S2', "valueOf", "(C)Ljava/lang/String;"⟩ : MethodName) jdk_42_method_139_code 1 (some (.object S2')) ws ({ frames := 2, cells := 2, slots := 5, locals := 27 } : Room) #[(.int cc)] h0 (jik Z cc cz h0 n0) := by
 refine jb (plainFor_of_name jac) (fun m => jbx m cc) ?_
 intro p e s m below meth c s₁ Bd hx hby hml hown hZ X0 e0 Pf hPf
 have N0 := Fr.nil n0
 have dd := oD42_139j.hb hby
 have ow33 := ow hw 33 rfl
 have ow35 := ow hw 35 rfl
 have ow36 := ow hw 36 rfl
 have ow37 := ow hw 37 rfl
 have ow38 := ow hw 38 rfl
 have ow39 := ow hw 39 rfl
 have ow40 := ow hw 40 rfl
 have ow41 := ow hw 41 rfl
 have ow42 := ow hw 42 rfl
 have ow43 := ow hw 43 rfl
 have ow44 := ow hw 44 rfl
 have ow46 := ow hw 46 rfl
 have ow47 := ow hw 47 rfl
 have ow49 := ow hw 49 rfl
 have ow52 := ow hw 52 rfl
 have ow54 := ow hw 54 rfl
 have ow344 := ow hw 344 rfl
 have ow346 := ow hw 346 rfl
 obtain ⟨T1, X1, e1, st1⟩ := getS2 X0 hx hZ hown (host := "") (Or.inl ow35) Via.refl e0 Sc0 (g := (jcM m 0 (oi cc) [])) rfl (dd 0 rfl)
 refine ja st1 ?_
 refine ja (A := oW p e below T1 (jcM m 7 (oi cc) [(.int cc)])) (fun t k => by
  refine XS.ifNo X1.here hx rfl (dd 1 rfl) rfl ((if0 _ _).trans (feq hcz).1) ?_
  refine XS.iloadN X1.here hx rfl (dd 2 rfl) rfl ?_
  exact k) ?_
 obtain ⟨_, T2, L2, X2, hQ2, st2⟩ := jH X1 hx hZ hown ow36 ow37 ow39 ow38 (jeQ l Z a0 hw [] cc h0 n0 Z0 hcc) e1 (by decide) (g := (jcM m 7 (oi cc) [(.int cc)])) rfl (by rw [hml]; rfl) (rest := []) rfl (lenOf jdR rfl) rfl (W := 0) (Nat.le_of_eq rfl) (dd 3 rfl) (by decide)
 obtain ⟨rfl, N2q, eh2⟩ := hQ2
 have N2 := Fr.app N0 N2q
 refine ja st2 ?_
 refine ja (A := oW p e below T2 (jcM m 13 (oi cc) [])) (fun t k => by
  refine XS.ifNo X2.here hx rfl (dd 4 rfl) rfl ((if0 _ _).trans (feq (by decide : ¬ ((1 : Int32) = (0 : Int32)))).1) ?_
  exact k) ?_
 obtain ⟨T3, h3, X3, e3, E3, A3, D3, -, st3⟩ := newO X2 hx hZ hown ow40 ow41 ow33 eh2 (g := (jcM m 13 (oi cc) [])) rfl (dd 5 rfl) (by decide) (by decide)
 obtain ⟨b3, g3⟩ : ∃ z, z = h0.size := ⟨_, rfl⟩
 rw [← g3] at A3 D3 st3
 refine ja st3 ?_
 have g_b3 : n0 ≤ b3 := Nat.le_trans Z0 (Nat.le_of_eq g3.symm)
 have Z3 : n0 ≤ h3.size := Nat.le_trans Z0 E3.1
 have sz_b3 : h0.size ≤ b3 := Nat.le_trans (Keep.refl h0 []).1 (Nat.le_of_eq g3.symm)
 have K3 : Keep h0 h3 [] := (Keep.refl h0 []).ext E3
 have F3_value : Fld Z h3 b3 S2' S21' "[B" .null := D3 (Or.inr ow52) (ty := (.array .byte)) (by decide)
 have F3_coder : Fld Z h3 b3 S2' "coder" "B" (.int 0) := D3 (Or.inr ow54) (ty := .byte) (by decide)
 have F3_hash : Fld Z h3 b3 S2' "hash" "I" (.int 0) := D3 (Or.inl ow344) (ty := .int) (by decide)
 have F3_hashIsZero : Fld Z h3 b3 S2' S51' "Z" (.int 0) := D3 (Or.inl ow346) (ty := .boolean) (by decide)
 refine ja (A := oW p e below T3 (jcM m 18 (oi cc) [(.int cc), (.ref b3), (.ref b3)])) (fun t k => by
  refine XS.dup X3.here hx rfl (dd 6 rfl) rfl rfl ?_
  refine XS.iloadN X3.here hx rfl (dd 7 rfl) rfl ?_
  exact k) ?_
 obtain ⟨_, T4, L4, X4, hQ4, st4⟩ := jH X3 hx hZ hown ow42 ow43 ow44 ow38 (jgw l Z a0 hw [] cc h3 n0 Z3 hcc) e3 (by decide) (g := (jcM m 18 (oi cc) [(.int cc), (.ref b3), (.ref b3)])) rfl (by rw [hml]; rfl) (rest := [(.ref b3), (.ref b3)]) rfl (lenOf jdj rfl) rfl (W := 2) (Nat.le_of_eq rfl) (dd 8 rfl) (by decide)
 obtain ⟨vb, kv, rfl, N4q, K4q, s_vb, p4_0, p4_1⟩ := hQ4
 have N4 := Fr.app N2 N4q
 have g_vb : n0 ≤ vb := Nat.le_trans Z3 s_vb
 have sz_vb : h0.size ≤ vb := Nat.le_trans K3.1 s_vb
 have ne_b3_vb : b3 ≠ vb := Nat.ne_of_lt (Nat.lt_of_lt_of_le A3.lt s_vb)
 have f4_0 := jC (Sc0.ext E3) K4q all0
 have f4_2 := F3_value.keep K4q nin0
 have f4_3 := F3_coder.keep K4q nin0
 have f4_4 := F3_hash.keep K4q nin0
 have f4_5 := F3_hashIsZero.keep K4q nin0
 have Z4 : n0 ≤ T4.heap.size := Nat.le_trans Z3 K4q.1
 have K4 : Keep h0 T4.heap [] := K3.trans K4q all0
 refine ja st4 ?_
 refine ja (A := oW p e below T4 (jcM m 22 (oi cc) [(.int 0), (.ref vb), (.ref b3), (.ref b3)])) (fun t k => by
  refine XS.iconst X4.here hx rfl (dd 9 rfl) ?_
  exact k) ?_
 obtain ⟨_, T5, L5, X5, hQ5, st5⟩ := jaF X4 hx hZ hown ow46 ow47 ow49 ow33 (jgx l Z a0 hw [] b3 vb T4.heap n0 Z4 (A3.keep K4q) f4_3 f4_2 f4_4 f4_5 g_b3) rfl rfl (by decide) (g := (jcM m 22 (oi cc) [(.int 0), (.ref vb), (.ref b3), (.ref b3)])) rfl (by rw [hml]; rfl) (rest := [(.ref b3)]) rfl (lenOf jdh rfl) rfl (W := 1) (Nat.le_of_eq rfl) (dd 10 rfl) (by decide)
 obtain ⟨rfl, N5q, K5q, p5_0, p5_1, p5_2, p5_3⟩ := hQ5
 have N5 := Fr.app N4 N5q
 have f5_0 := jC f4_0 K5q (allS (jaZ (A3.keep K4q)) all0)
 have f5_7 := p4_1.keep K5q (ninS (Ne.symm ne_b3_vb) nin0)
 have Z5 : n0 ≤ T5.heap.size := Nat.le_trans Z4 K5q.1
 have K5 : Keep h0 T5.heap [] := K4.trans K5q (allS (Or.inr sz_b3) all0)
 refine ja st5 ?_
 refine jE X5 hx Bd hPf (by decide) (by decide) rfl rfl rfl (dd 11 rfl) ?_
 exact ⟨b3, rfl, N5, K5, sz_b3, g_b3, ((A3.keep K4q).keep K5q), p5_0, p5_1, ⟨_, p5_2, Or.inl rfl⟩, vb, _, p5_3, (p4_0.keep K5q), f5_7⟩
def jaf (w : Int32) : Prop := w = 0 ∨ w = 1 ∨ w = 2
theorem jlx {w : Int32} (h : jaf w) : (((97 : Int32) + w)).toUInt32.toUInt16.toUInt32.toInt32 = ((97 : Int32) + w) := by rcases h with rfl | rfl | rfl <;> rfl
theorem jdS {w : Int32} (h : jaf w) : jaL ((97 : Int32) + w) := by rcases h with rfl | rfl | rfl <;> simp [jaL]
abbrev jil (m : MethodId) (pc : Nat) (a0 : Slot) (S : List Value) : JFrame := mkF m pc #[a0] S
theorem oD2x : oDec method_2_code [(0, .bipush 97, 2), (2, .iload_n 0, 1), (3, .iadd, 1), (4, .i2c, 1), (5, .invokestatic 7, 3), (8, .areturn, 1)] := by decide +kernel
theorem jap : parseMethodDescriptor "(C)Ljava/lang/String;" = some ⟨[.char], some (.object "java/lang/String")⟩ := by decide +kernel
def jgy (Z : State) (iw : Int32) (cz : Int32) (h0 : Heap) (n0 : Nat) (v : Option Value) (h : Heap) (L : List Loc) : Prop := ∃ so : Addr, v = some (.ref so) ∧ Fr n0 L ∧ Keep h0 h [] ∧ h0.size ≤ so ∧ jn Z n0 h so ((97 : Int32) + iw)
theorem ju : plainName "com/example/fimpl/fimpl/device/TileTypeIsPipSourcePinLaw" = true := by first | (simp [plainName, overriddenIn]; done) | decide +kernel
theorem jaE (l : Launch) (Z : State) (a0 : Array Value) (hw : oH a0 Z) (ws : List Jvm.Cond) (iw : Int32) (cz : Int32) (h0 : Heap) (n0 : Nat) (Z0 : n0 ≤ h0.size) (Sc0 : Sta Z h0 S2' S26' "Z" (.int cz)) (hcz : ¬ cz = (0 : Int32)) (hw3 : jaf iw) :
  ji l Z (⟨S54', "name", "(I)Ljava/lang/String;"⟩ : MethodName) method_2_code 1 (some (.object S2')) ws ({ frames := 3, cells := 2, slots := 5, locals := 39 } : Room) #[(.int iw)] h0 (jgy Z iw cz h0 n0) := by
 refine jb (plainFor_of_name ju) (fun m => jbx m iw) ?_
 intro p e s m below meth c s₁ Bd hx hby hml hown hZ X0 e0 Pf hPf
 have N0 := Fr.nil n0
 have dd := oD2x.hb hby
 have ow31 := ow hw 31 rfl
 have ow32 := ow hw 32 rfl
 have ow33 := ow hw 33 rfl
 have ow34 := ow hw 34 rfl
 refine ja (A := oW p e below s₁ (jil m 5 (oi iw) [(.int ((97 : Int32) + iw).toUInt32.toUInt16.toUInt32.toInt32)])) (fun t k => by
  refine XS.bipush X0.here hx rfl (dd 0 rfl) ?_
  refine XS.iloadN X0.here hx rfl (dd 1 rfl) rfl ?_
  refine XS.iadd X0.here hx rfl (dd 2 rfl) rfl ?_
  refine XS.i2c X0.here hx rfl (dd 3 rfl) rfl ?_
  exact k) ?_
 rw [jlx hw3]
 obtain ⟨_, T1, L1, X1, hQ1, st1⟩ := jH X0 hx hZ hown ow31 ow32 ow34 ow33 (jdB l Z a0 hw [] ((97 : Int32) + iw) cz h0 n0 Z0 Sc0 hcz (jdS hw3)) e0 (by decide) (g := (jil m 5 (oi iw) [(.int ((97 : Int32) + iw))])) rfl (by rw [hml]; rfl) (rest := []) rfl (lenOf jap rfl) rfl (W := 0) (Nat.le_of_eq rfl) (dd 4 rfl) (by decide)
 obtain ⟨s1a, rfl, N1q, K1q, s_s1a, p1_0⟩ := hQ1
 have N1 := Fr.app N0 N1q
 have g_s1a : n0 ≤ s1a := Nat.le_trans Z0 s_s1a
 have sz_s1a : h0.size ≤ s1a := Nat.le_trans (Keep.refl h0 []).1 s_s1a
 have f1_0 := jC Sc0 K1q all0
 have Z1 : n0 ≤ T1.heap.size := Nat.le_trans Z0 K1q.1
 have K1 : Keep h0 T1.heap [] := (Keep.refl h0 []).trans K1q all0
 refine ja st1 ?_
 refine jE X1 hx Bd hPf (by decide) (by decide) rfl rfl rfl (dd 5 rfl) ?_
 exact ⟨s1a, rfl, N1, K1, sz_s1a, p1_0⟩
abbrev jfH (m : MethodId) (pc : Nat) (a0 : Slot) (S : List Value) : JFrame := mkF m pc #[a0] S
theorem oD42_154j : oDec jdk_42_method_154_code [(0, .getstatic 38, 3), (3, .ifCond .eq 14, 3), (6, .aload_n 0, 1), (7, .getfield 15, 3), (10, .ifCond .ne 7, 3), (13, .iconst 1, 1), (14, .goto 4, 3), (17, .iconst 0, 1), (18, .ireturn, 1)] := by decide +kernel
def jim (Z : State) (ps : Addr) (cz : Int32) (h0 : Heap) (n0 : Nat) (v : Option Value) (h : Heap) (L : List Loc) : Prop := v = some (.int 1) ∧ Fr n0 L ∧ h = h0
theorem jgz (l : Launch) (Z : State) (a0 : Array Value) (hw : oH a0 Z) (ws : List Jvm.Cond) (ps : Addr) (cz : Int32) (h0 : Heap) (n0 : Nat) (Z0 : n0 ≤ h0.size) (Sc0 : Sta Z h0 S2' S26' "Z" (.int cz)) (hcz : ¬ cz = (0 : Int32)) (Fc0 : Fld Z h0 ps S2' "coder" "B" (.int 0)) :
  ji l Z (⟨S2', "isLatin1", "()Z"⟩ : MethodName) jdk_42_method_154_code 1 (some .boolean) ws ({ frames := 0, cells := 0, slots := 0, locals := 0 } : Room) #[(.ref ps)] h0 (jim Z ps cz h0 n0) := by
 refine jb (plainFor_of_name jac) (fun m => jr m ps) ?_
 intro p e s m below meth c s₁ Bd hx hby hml hown hZ X0 e0 Pf hPf
 have N0 := Fr.nil n0
 have dd := oD42_154j.hb hby
 have ow35 := ow hw 35 rfl
 have ow53 := ow hw 53 rfl
 obtain ⟨T1, X1, e1, st1⟩ := getS2 X0 hx hZ hown (host := "") (Or.inl ow35) Via.refl e0 Sc0 (g := (jfH m 0 (oR ps) [])) rfl (dd 0 rfl)
 refine ja st1 ?_
 refine ja (A := oW p e below T1 (jfH m 7 (oR ps) [(.ref ps)])) (fun t k => by
  refine XS.ifNo X1.here hx rfl (dd 1 rfl) rfl ((if0 _ _).trans (feq hcz).1) ?_
  refine XS.aloadN X1.here hx rfl (dd 2 rfl) rfl rfl ?_
  exact k) ?_
 obtain ⟨T2, X2, e2, st2⟩ := getF X1 hx hZ hown (host := "") (Or.inl ow53) Via.refl e1 Fc0 (g := (jfH m 7 (oR ps) [(.ref ps)])) rfl rfl (dd 3 rfl)
 refine ja st2 ?_
 refine ja (A := oW p e below T2 (jfH m 18 (oR ps) [(.int 1)])) (fun t k => by
  refine XS.ifNo X2.here hx rfl (dd 4 rfl) rfl ((if0 _ _).trans (teq (by decide : (0 : Int32) = (0 : Int32))).2) ?_
  refine XS.iconst X2.here hx rfl (dd 5 rfl) ?_
  refine XS.goto X2.here hx rfl (pc0 := 14) (pc' := 18) rfl (dd 6 rfl) (by decide) (by decide) ?_
  exact k) ?_
 refine jaw X2 hx Bd (by simp) hPf (by decide) (by decide) (dd 8 rfl) ?_
 rw [e2]
 exact ⟨rfl, N0, rfl⟩
abbrev jen (m : MethodId) (pc : Nat) (a0 : Slot) (S : List Value) : JFrame := mkF m pc #[a0] S
theorem oD43_21j : oDec jdk_43_method_21_code [(0, .aload_n 0, 1), (1, .arraylength, 1), (2, .lookupswitch 40 #[(0, 26), (1, 30)], 26), (28, .iconst 0, 1), (29, .goto 22, 3), (32, .aload_n 0, 1), (33, .iconst 0, 1), (34, .baload, 1), (35, .sipush 255, 3), (38, .iand, 1), (39, .goto 12, 3), (42, .aload_n 0, 1), (43, .iconst 0, 1), (44, .aload_n 0, 1), (45, .arraylength, 1), (46, .iconst 0, 1), (47, .iconst 4, 1), (48, .invokestatic 84, 3), (51, .ireturn, 1)] := by decide +kernel
def jin (Z : State) (pb : Addr) (kb : ClassId) (cc : Int32) (h0 : Heap) (n0 : Nat) (v : Option Value) (h : Heap) (L : List Loc) : Prop := v = some (.int cc) ∧ Fr n0 L ∧ h = h0
theorem jgA (l : Launch) (Z : State) (a0 : Array Value) (hw : oH a0 Z) (ws : List Jvm.Cond) (pb : Addr) (kb : ClassId) (cc : Int32) (h0 : Heap) (n0 : Nat) (Z0 : n0 ≤ h0.size) (Vb0 : Arv Z h0 pb kb .byte (1 : Int32) [.int cc] (.int 0)) (hcc : jaL cc) :
  ji l Z (⟨S57', "hashCode", "([B)I"⟩ : MethodName) jdk_43_method_21_code 1 (some .int) ws ({ frames := 0, cells := 0, slots := 0, locals := 0 } : Room) #[(.ref pb)] h0 (jin Z pb kb cc h0 n0) := by
 refine jb (plainFor_of_name jW) (fun m => jr m pb) ?_
 intro p e s m below meth c s₁ Bd hx hby hml hown hZ X0 e0 Pf hPf
 have N0 := Fr.nil n0
 have dd := oD43_21j.hb hby
 refine ja (A := oW p e below s₁ (jen m 34 (oR pb) [(.int 0), (.ref pb)])) (fun t k => by
  refine XS.aloadN X0.here hx rfl (dd 0 rfl) rfl rfl ?_
  refine jM X0 hx hZ e0 Vb0 (g := (jen m 1 (oR pb) [(.ref pb)])) rfl rfl (dd 1 rfl) _ ?_
  refine X0.lookupswitchHit hx (g := (jen m 2 (oR pb) [(.int 1)])) rfl (k := (1 : Int32)) (rest := []) rfl (dd 2 rfl) (by decide) (a := 1) (off := 30) (by decide) (by show (0 : Int) ≤ ((2 : Nat) : Int) + _; decide) _ ?_
  refine XS.aloadN X0.here hx rfl (dd 5 rfl) rfl rfl ?_
  refine XS.iconst X0.here hx rfl (dd 6 rfl) ?_
  exact k) ?_
 obtain ⟨cl1, Ar1, -, S1, -, H1, -⟩ := id (Vb0)
 have hi1 : ¬ ((0 : Int32) < 0 ∨ cl1.slots.size ≤ ((0 : Int32)).toNatClampNeg) := inb_of S1 ⟨by decide, by decide⟩
 have hv1 : cl1.slots[((0 : Int32)).toNatClampNeg]? = some (.int cc) := H1.at hi1 rfl
 refine ja (A := oW p e below s₁ (jen m 51 (oR pb) [(.int (cc &&& (255 : Int32)))])) (fun t k => by
  refine X0.baloadBytes hx (j := (0 : Int32)) (v := (.int cc)) (by rw [e0]; exact Ar1.1) (State.isArrayOf_alike hZ.alike Ar1.2.1) Ar1.2.2 hi1 hv1 (g := (jen m 34 (oR pb) [(.int 0), (.ref pb)])) rfl rfl (dd 7 rfl) _ ?_
  refine XS.sipush X0.here hx rfl (dd 8 rfl) ?_
  refine XS.iand X0.here hx rfl (dd 9 rfl) rfl ?_
  refine XS.goto X0.here hx rfl (pc0 := 39) (pc' := 51) rfl (dd 10 rfl) (by decide) (by decide) ?_
  exact k) ?_
 refine jaD X0 hx Bd hPf (by decide) (by decide) (dd 18 rfl) ?_
 rw [e0]
 exact ⟨by rw [jjz hcc], N0, rfl⟩
abbrev jbB (m : MethodId) (pc : Nat) (a0 a1 : Slot) (S : List Value) : JFrame := mkF m pc #[a0, a1] S
theorem oD42_78j : oDec jdk_42_method_78_code [(0, .aload_n 0, 1), (1, .getfield 19, 3), (4, .istore_n 1, 1), (5, .iload_n 1, 1), (6, .ifCond .ne 52, 3), (9, .aload_n 0, 1), (10, .getfield 23, 3), (13, .ifCond .ne 45, 3), (16, .aload_n 0, 1), (17, .invokevirtual 492, 3), (20, .ifCond .eq 13, 3), (23, .aload_n 0, 1), (24, .getfield 9, 3), (27, .invokestatic 628, 3), (30, .goto 10, 3), (33, .aload_n 0, 1), (34, .getfield 9, 3), (37, .invokestatic 632, 3), (40, .istore_n 1, 1), (41, .iload_n 1, 1), (42, .ifCond .ne 11, 3), (45, .aload_n 0, 1), (46, .iconst 1, 1), (47, .putfield 23, 3), (50, .goto 8, 3), (53, .aload_n 0, 1), (54, .iload_n 1, 1), (55, .putfield 19, 3), (58, .iload_n 1, 1), (59, .ireturn, 1)] := by decide +kernel
theorem jaJ : parseMethodDescriptor "()Z" = some ⟨[], some .boolean⟩ := by decide +kernel
theorem jdl : parseMethodDescriptor "([B)I" = some ⟨[(.array .byte)], some .int⟩ := by decide +kernel
theorem jjC {a0 : Array Value} {Z : State} (hw : oH a0 Z) : jc Z S2' "coder" "B" ≠ jc Z S2' "hash" "I" := jg (C := S2') (Or.inr (ow hw 54 rfl)) (Or.inl (ow hw 344 rfl)) (by decide) rfl rfl
theorem jjD {a0 : Array Value} {Z : State} (hw : oH a0 Z) : jc Z S2' S51' "Z" ≠ jc Z S2' "hash" "I" := jg (C := S2') (Or.inl (ow hw 346 rfl)) (Or.inl (ow hw 344 rfl)) (by decide) rfl rfl
theorem jjE {a0 : Array Value} {Z : State} (hw : oH a0 Z) : jc Z S2' S21' "[B" ≠ jc Z S2' "hash" "I" := jg (C := S2') (Or.inr (ow hw 52 rfl)) (Or.inl (ow hw 344 rfl)) (by decide) rfl rfl
theorem jaX (m : MethodId) (x0 : Addr) : entryFrame m #[(.ref x0)] 2 = mkF m 0 #[(oR x0), ou] [] := by first | (simp [entryFrame, mkF, argsToLocals, Value.category]; done) | rfl
def jio (Z : State) (ps : Addr) (cz cc : Int32) (h0 : Heap) (n0 : Nat) (v : Option Value) (h : Heap) (L : List Loc) : Prop := v = some (.int cc) ∧ Fr n0 L ∧ Keep h0 h [ps] ∧ jn Z n0 h ps cc ∧ Sta Z h S2' S26' "Z" (.int cz)
theorem jgB (l : Launch) (Z : State) (a0 : Array Value) (hw : oH a0 Z) (ws : List Jvm.Cond) (ps : Addr) (cz cc : Int32) (h0 : Heap) (n0 : Nat) (Z0 : n0 ≤ h0.size) (Sc0 : Sta Z h0 S2' S26' "Z" (.int cz)) (hcz : ¬ cz = (0 : Int32)) (HS0 : jn Z n0 h0 ps cc) (hcc : jaL cc) :
  ji l Z (⟨S2', "hashCode", "()I"⟩ : MethodName) jdk_42_method_78_code 2 (some .int) ws ({ frames := 1, cells := 0, slots := 0, locals := 12 } : Room) #[(.ref ps)] h0 (jio Z ps cz cc h0 n0) := by
 refine jb (plainFor_of_name jac) (fun m => jaX m ps) ?_
 intro p e s m below meth c s₁ Bd hx hby hml hown hZ X0 e0 Pf hPf
 have N0 := Fr.nil n0
 have dd := oD42_78j.hb hby
 have ow33 := ow hw 33 rfl
 have ow38 := ow hw 38 rfl
 have ow41 := ow hw 41 rfl
 have ow51 := ow hw 51 rfl
 have ow343 := ow hw 343 rfl
 have ow344 := ow hw 344 rfl
 have ow345 := ow hw 345 rfl
 have ow347 := ow hw 347 rfl
 have ow348 := ow hw 348 rfl
 have ow349 := ow hw 349 rfl
 have ow350 := ow hw 350 rfl
 have ow351 := ow hw 351 rfl
 have ow352 := ow hw 352 rfl
 have ow353 := ow hw 353 rfl
 have ow354 := ow hw 354 rfl
 obtain ⟨g_ps, Ex0, Fc0, Fz0, ⟨hv, Fh0, hhv⟩, pb, kb, Fv0, Eb0, Vb0⟩ := id HS0
 obtain ⟨g_ps, Ex0, Fc0, Fz0, ⟨hv, Fh0, hhv⟩, pb, kb, Fv0, Eb0, Vb0⟩ := id HS0
 refine ja (A := oW p e below s₁ (jbB m 1 (oR ps) ou [(.ref ps)])) (fun t k => by
  refine XS.aloadN X0.here hx rfl (dd 0 rfl) rfl rfl ?_
  exact k) ?_
 obtain ⟨T1, X1, e1, st1⟩ := getF X0 hx hZ hown (host := "") (Or.inl ow343) Via.refl e0 Fh0 (g := (jbB m 1 (oR ps) ou [(.ref ps)])) rfl rfl (dd 1 rfl)
 refine ja st1 ?_
 refine ja (A := oW p e below T1 (jbB m 6 (oR ps) (oi hv) [(.int hv)])) (fun t k => by
  refine XS.istoreN X1.here hx rfl (dd 2 rfl) rfl (l' := #[(oR ps), (oi hv)]) rfl ?_
  refine XS.iloadN X1.here hx rfl (dd 3 rfl) rfl ?_
  exact k) ?_
 by_cases hc6_2 : hv = (0 : Int32)
 ·
  refine ja (A := oW p e below T1 (jbB m 10 (oR ps) (oi hv) [(.ref ps)])) (fun t k => by
   refine XS.ifNo X1.here hx rfl (dd 4 rfl) rfl ((if0 _ _).trans (teq hc6_2).2) ?_
   refine XS.aloadN X1.here hx rfl (dd 5 rfl) rfl rfl ?_
   exact k) ?_
  obtain ⟨T3, X3, e3, st3⟩ := getF X1 hx hZ hown (host := "") (Or.inl ow345) Via.refl e1 Fz0 (g := (jbB m 10 (oR ps) (oi hv) [(.ref ps)])) rfl rfl (dd 6 rfl)
  refine ja st3 ?_
  refine ja (A := oW p e below T3 (jbB m 17 (oR ps) (oi hv) [(.ref ps)])) (fun t k => by
   refine XS.ifNo X3.here hx rfl (dd 7 rfl) rfl ((if0 _ _).trans (teq (by decide : (0 : Int32) = (0 : Int32))).2) ?_
   refine XS.aloadN X3.here hx rfl (dd 8 rfl) rfl rfl ?_
   exact k) ?_
  obtain ⟨_, T4, L4, X4, hQ4, st4⟩ := jax X3 hx hZ hown ow347 ow348 ow350 ow349 ow351 ow33 (jgz l Z a0 hw [] ps cz h0 n0 Z0 Sc0 hcz Fc0) e3 (notFace_of_selects (args := #[]) (mvT hZ ow350)) Ex0 (by decide) (g := (jbB m 17 (oR ps) (oi hv) [(.ref ps)])) rfl (by rw [hml]; rfl) (rest := []) rfl (lenOf jaJ rfl) rfl (W := 0) (Nat.le_of_eq rfl) (dd 9 rfl) (by decide)
  obtain ⟨rfl, N4q, eh4⟩ := hQ4
  have N4 := Fr.app N0 N4q
  refine ja st4 ?_
  refine ja (A := oW p e below T4 (jbB m 24 (oR ps) (oi hv) [(.ref ps)])) (fun t k => by
   refine XS.ifNo X4.here hx rfl (dd 10 rfl) rfl ((if0 _ _).trans (feq (by decide : ¬ ((1 : Int32) = (0 : Int32)))).1) ?_
   refine XS.aloadN X4.here hx rfl (dd 11 rfl) rfl rfl ?_
   exact k) ?_
  obtain ⟨T5, X5, e5, st5⟩ := getF X4 hx hZ hown (host := "") (Or.inl ow51) Via.refl eh4 Fv0 (g := (jbB m 24 (oR ps) (oi hv) [(.ref ps)])) rfl rfl (dd 12 rfl)
  refine ja st5 ?_
  obtain ⟨_, T6, L6, X6, hQ6, st6⟩ := jH X5 hx hZ hown ow352 ow353 ow354 ow38 (jgA l Z a0 hw [] pb kb cc h0 n0 Z0 Vb0 hcc) e5 (by decide) (g := (jbB m 27 (oR ps) (oi hv) [(.ref pb)])) rfl (by rw [hml]; rfl) (rest := []) rfl (lenOf jdl rfl) rfl (W := 0) (Nat.le_of_eq rfl) (dd 13 rfl) (by decide)
  obtain ⟨rfl, N6q, eh6⟩ := hQ6
  have N6 := Fr.app N4 N6q
  refine ja st6 ?_
  refine ja (A := oW p e below T6 (jbB m 55 (oR ps) (oi cc) [(.int cc), (.ref ps)])) (fun t k => by
   refine XS.goto X6.here hx rfl (pc0 := 30) (pc' := 40) rfl (dd 14 rfl) (by decide) (by decide) ?_
   show oW p e below T6 (jbB m 40 (oR ps) (oi hv) [(.int cc)]) _
   refine XS.istoreN X6.here hx rfl (dd 18 rfl) rfl (l' := #[(oR ps), (oi cc)]) rfl ?_
   refine XS.iloadN X6.here hx rfl (dd 19 rfl) rfl ?_
   refine XS.ifYes X6.here hx rfl (pc0 := 42) (pc' := 53) rfl (dd 20 rfl) rfl ((if0 _ _).trans (feq (jlv hcc)).2) (by decide) (by decide) ?_
   refine XS.aloadN X6.here hx rfl (dd 25 rfl) rfl rfl ?_
   refine XS.iloadN X6.here hx rfl (dd 26 rfl) rfl ?_
   exact k) ?_
  obtain ⟨T7, h7, X7, e7, W7, st7⟩ := putF X6 hx hZ hown (host := "") (Or.inl ow343) Via.refl eh6 Fh0 Ex0 (Or.inl ow344) ow41 (ty := .int) (by decide) rfl rfl (g := (jbB m 55 (oR ps) (oi cc) [(.int cc), (.ref ps)])) rfl rfl (dd 27 rfl)
  refine ja st7 ?_
  have f7_2 := Fc0.other W7 (Or.inr (jjC hw))
  have f7_3 := Fz0.other W7 (Or.inr (jjD hw))
  have f7_4 : Fld Z h7 ps S2' "hash" "I" (.int cc) := Fh0.same W7
  have f7_5 := Fv0.other W7 (Or.inr (jjE hw))
  have f7_7 := Vb0.other W7 ((Exa.ne Eb0 Ex0 (by decide)))
  have N7 := Fr.snoc X7 N6 g_ps
  have Z7 : n0 ≤ h7.size := Nat.le_trans Z0 (Keep.of_wr W7).1
  have K7 : Keep h0 h7 [ps] := (Keep.refl h0 [ps]).wr W7 (Or.inl (List.mem_of_getElem? (i := 0) rfl))
  refine ja (A := oW p e below T7 (jbB m 59 (oR ps) (oi cc) [(.int cc)])) (fun t k => by
   refine XS.iloadN X7.here hx rfl (dd 28 rfl) rfl ?_
   exact k) ?_
  refine jaD X7 hx Bd hPf (by decide) (by decide) (dd 29 rfl) ?_
  rw [e7]
  exact ⟨rfl, N7, K7, ⟨g_ps, (Ex0.wr W7), f7_2, f7_3, ⟨_, f7_4, Or.inr rfl⟩, pb, kb, f7_5, (Eb0.wr W7), f7_7⟩, (Sc0.wr W7)⟩
 ·
  refine ja (A := oW p e below T1 (jbB m 59 (oR ps) (oi hv) [(.int hv)])) (fun t k => by
   refine XS.ifYes X1.here hx rfl (pc0 := 6) (pc' := 58) rfl (dd 4 rfl) rfl ((if0 _ _).trans (feq hc6_2).2) (by decide) (by decide) ?_
   refine XS.iloadN X1.here hx rfl (dd 28 rfl) rfl ?_
   exact k) ?_
  refine jaD X1 hx Bd hPf (by decide) (by decide) (dd 29 rfl) ?_
  rw [e1]
  exact ⟨hhv.elim (fun q => absurd q hc6_2) (fun q => by rw [q]), N0, (Keep.refl h0 [ps]), HS0, Sc0⟩
abbrev jdT (m : MethodId) (pc : Nat) (a0 a1 : Slot) (S : List Value) : JFrame := mkF m pc #[a0, a1] S
theorem oD69_1j : oDec jdk_69_method_1_code [(0, .aload_n 0, 1), (1, .ifnonnull 7, 3), (4, .iconst 0, 1), (5, .goto 14, 3), (8, .aload_n 0, 1), (9, .invokevirtual 1, 3), (12, .dup, 1), (13, .istore_n 1, 1), (14, .iload_n 1, 1), (15, .bipush 16, 2), (17, .iushr, 1), (18, .ixor, 1), (19, .ireturn, 1)] := by decide +kernel
theorem jag : parseMethodDescriptor "()I" = some ⟨[], some .int⟩ := by decide +kernel
def jgC (Z : State) (ps : Addr) (cz cc : Int32) (h0 : Heap) (n0 : Nat) (v : Option Value) (h : Heap) (L : List Loc) : Prop := v = some (.int cc) ∧ Fr n0 L ∧ Keep h0 h [ps] ∧ jn Z n0 h ps cc ∧ Sta Z h S2' S26' "Z" (.int cz)
theorem jp : plainName "java/util/HashMap" = true := by first | (simp [plainName, overriddenIn]; done) | decide +kernel
theorem jcG (l : Launch) (Z : State) (a0 : Array Value) (hw : oH a0 Z) (ws : List Jvm.Cond) (ps : Addr) (cz cc : Int32) (h0 : Heap) (n0 : Nat) (Z0 : n0 ≤ h0.size) (Sc0 : Sta Z h0 S2' S26' "Z" (.int cz)) (hcz : ¬ cz = (0 : Int32)) (HS0 : jn Z n0 h0 ps cc) (hcc : jaL cc) :
  ji l Z (⟨S1', "hash", "(Ljava/lang/Object;)I"⟩ : MethodName) jdk_69_method_1_code 2 (some .int) ws ({ frames := 2, cells := 0, slots := 0, locals := 25 } : Room) #[(.ref ps)] h0 (jgC Z ps cz cc h0 n0) := by
 refine jb (plainFor_of_name jp) (fun m => jaX m ps) ?_
 intro p e s m below meth c s₁ Bd hx hby hml hown hZ X0 e0 Pf hPf
 have N0 := Fr.nil n0
 have dd := oD69_1j.hb hby
 have ow33 := ow hw 33 rfl
 have ow203 := ow hw 203 rfl
 have ow337 := ow hw 337 rfl
 have ow338 := ow hw 338 rfl
 have ow340 := ow hw 340 rfl
 have ow341 := ow hw 341 rfl
 have ow342 := ow hw 342 rfl
 refine ja (A := oW p e below s₁ (jdT m 9 (oR ps) ou [(.ref ps)])) (fun t k => by
  refine XS.aloadN X0.here hx rfl (dd 0 rfl) rfl rfl ?_
  refine XS.ifnonnullYes X0.here hx rfl (pc0 := 1) (pc' := 8) rfl (dd 1 rfl) rfl (by decide) (by decide) ?_
  refine XS.aloadN X0.here hx rfl (dd 4 rfl) rfl rfl ?_
  exact k) ?_
 obtain ⟨_, T1, L1, X1, hQ1, st1⟩ := jax X0 hx hZ hown ow337 ow338 ow340 ow341 ow342 ow33 (jgB l Z a0 hw [] ps cz cc h0 n0 Z0 Sc0 hcz HS0 hcc) e0 (jkK (args := #[]) (mvT hZ ow203) rfl) HS0.2.1 (by decide) (g := (jdT m 9 (oR ps) ou [(.ref ps)])) rfl (by rw [hml]; rfl) (rest := []) rfl (lenOf jag rfl) rfl (W := 0) (Nat.le_of_eq rfl) (dd 5 rfl) (by decide)
 obtain ⟨rfl, N1q, K1q, p1_0, p1_1⟩ := hQ1
 have N1 := Fr.app N0 N1q
 have Z1 : n0 ≤ T1.heap.size := Nat.le_trans Z0 K1q.1
 have K1 : Keep h0 T1.heap [ps] := (Keep.refl h0 [ps]).trans K1q (allS (Or.inl (List.mem_of_getElem? (i := 0) rfl)) all0)
 refine ja st1 ?_
 refine ja (A := oW p e below T1 (jdT m 19 (oR ps) (oi cc) [(.int (cc ^^^ ((cc.toUInt32 >>> ((16 : Int32) &&& 31).toUInt32).toInt32)))])) (fun t k => by
  refine XS.dup X1.here hx rfl (dd 6 rfl) rfl rfl ?_
  refine XS.istoreN X1.here hx rfl (dd 7 rfl) rfl (l' := #[(oR ps), (oi cc)]) rfl ?_
  show oW p e below T1 (jdT m 14 (oR ps) (oi cc) [(.int cc)]) _
  refine XS.iloadN X1.here hx rfl (dd 8 rfl) rfl ?_
  refine XS.bipush X1.here hx rfl (dd 9 rfl) ?_
  refine XS.iushr X1.here hx rfl (dd 10 rfl) rfl ?_
  refine XS.ixor X1.here hx rfl (dd 11 rfl) rfl ?_
  exact k) ?_
 refine jaD X1 hx Bd hPf (by decide) (by decide) (dd 12 rfl) ?_
 exact ⟨by rw [jlw hcc], N1, K1, p1_0, p1_1⟩
abbrev jeo (m : MethodId) (pc : Nat) (a0 : Slot) (S : List Value) : JFrame := mkF m pc #[a0] S
theorem oD69_7j : oDec jdk_69_method_7_code [(0, .aload_n 0, 1), (1, .invokespecial 43, 3), (4, .aload_n 0, 1), (5, .ldc 92, 2), (7, .putfield 81, 3), (10, .return_, 1)] := by decide +kernel
theorem jjF {a0 : Array Value} {Z : State} (hw : oH a0 Z) : jc Z S1' S22' S16' ≠ jc Z S1' S52' "F" := jg (C := S1') (Or.inl (ow hw 361 rfl)) (Or.inr (ow hw 133 rfl)) (by decide) rfl rfl
theorem jjG {a0 : Array Value} {Z : State} (hw : oH a0 Z) : jc Z S1' S8' "I" ≠ jc Z S1' S52' "F" := jg (C := S1') (Or.inl (ow hw 318 rfl)) (Or.inr (ow hw 133 rfl)) (by decide) rfl rfl
theorem jjH {a0 : Array Value} {Z : State} (hw : oH a0 Z) : jc Z S1' S23' "I" ≠ jc Z S1' S52' "F" := jg (C := S1') (Or.inl (ow hw 368 rfl)) (Or.inr (ow hw 133 rfl)) (by decide) rfl rfl
theorem jjI {a0 : Array Value} {Z : State} (hw : oH a0 Z) : jc Z S1' S12' "I" ≠ jc Z S1' S52' "F" := jg (C := S1') (Or.inl (ow hw 392 rfl)) (Or.inr (ow hw 133 rfl)) (by decide) rfl rfl
def jip (Z : State) (hm : Addr)  (h0 : Heap) (n0 : Nat) (v : Option Value) (h : Heap) (L : List Loc) : Prop := v = none ∧ Fr n0 L ∧ Keep h0 h [hm] ∧ Fld Z h hm S1' S22' S16' .null ∧ Fld Z h hm S1' S8' "I" (.int 0) ∧ Fld Z h hm S1' S23' "I" (.int 0) ∧ Fld Z h hm S1' S12' "I" (.int 0)
theorem jgD (l : Launch) (Z : State) (a0 : Array Value) (hw : oH a0 Z) (ws : List Jvm.Cond) (hm : Addr)  (h0 : Heap) (n0 : Nat) (Z0 : n0 ≤ h0.size) (Em0 : Exa Z h0 hm S1') (g_hm : n0 ≤ hm) (Ft0 : Fld Z h0 hm S1' S22' S16' .null) (Fs0 : Fld Z h0 hm S1' S8' "I" (.int 0)) (Fh0 : Fld Z h0 hm S1' S23' "I" (.int 0)) (Fm0 : Fld Z h0 hm S1' S12' "I" (.int 0)) (Fl0 : Fld Z h0 hm S1' S52' "F" (.float (0 : UInt32))) :
  ji l Z (⟨S1', S27', "()V"⟩ : MethodName) jdk_69_method_7_code 1 none ws ({ frames := 2, cells := 0, slots := 0, locals := 24 } : Room) #[(.ref hm)] h0 (jip Z hm h0 n0) := by
 refine jb (plainFor_of_name jp) (fun m => jr m hm) ?_
 intro p e s m below meth c s₁ Bd hx hby hml hown hZ X0 e0 Pf hPf
 have N0 := Fr.nil n0
 have dd := oD69_7j.hb hby
 have hnm := (name_of_methodNamed Bd.named Bd.method).1
 have ow119 := ow hw 119 rfl
 have ow124 := ow hw 124 rfl
 have ow125 := ow hw 125 rfl
 have ow128 := ow hw 128 rfl
 have ow129 := ow hw 129 rfl
 have ow131 := ow hw 131 rfl
 have ow132 := ow hw 132 rfl
 have ow133 := ow hw 133 rfl
 refine ja (A := oW p e below s₁ (jeo m 1 (oR hm) [(.ref hm)])) (fun t k => by
  refine XS.aloadN X0.here hx rfl (dd 0 rfl) rfl rfl ?_
  exact k) ?_
 obtain ⟨_, T1, L1, X1, hQ1, st1⟩ := jaF X0 hx hZ hown ow124 ow125 ow129 ow128 (jgp l Z a0 hw [] hm h0 n0 Z0 ) e0 rfl (by decide) (g := (jeo m 1 (oR hm) [(.ref hm)])) rfl (by rw [hml]; rfl) (rest := []) rfl (lenOf jS rfl) rfl (W := 0) (Nat.le_of_eq rfl) (dd 1 rfl) (by decide)
 obtain ⟨rfl, N1q, eh1⟩ := hQ1
 have N1 := Fr.app N0 N1q
 refine ja st1 ?_
 refine ja (A := oW p e below T1 (jeo m 7 (oR hm) [(.float (1061158912 : UInt32)), (.ref hm)])) (fun t k => by
  refine XS.aloadN X1.here hx rfl (dd 2 rfl) rfl rfl ?_
  refine X1.ldcFloatC hx hown (mvT hZ ow131) (g := (jeo m 5 (oR hm) [(.ref hm)])) rfl (dd 3 rfl) _ ?_
  exact k) ?_
 obtain ⟨T2, h2, X2, e2, W2, st2⟩ := putF X1 hx hZ hown (host := "") (Or.inl ow132) Via.refl eh1 Fl0 Em0 (Or.inr ⟨ow133, rfl, hnm⟩) ow119 (ty := .float) (by decide) rfl rfl (g := (jeo m 7 (oR hm) [(.float (1061158912 : UInt32)), (.ref hm)])) rfl rfl (dd 4 rfl)
 refine ja st2 ?_
 have f2_1 := Ft0.other W2 (Or.inr (jjF hw))
 have f2_2 := Fs0.other W2 (Or.inr (jjG hw))
 have f2_3 := Fh0.other W2 (Or.inr (jjH hw))
 have f2_4 := Fm0.other W2 (Or.inr (jjI hw))
 have f2_5 : Fld Z h2 hm S1' S52' "F" (.float (1061158912 : UInt32)) := Fl0.same W2
 have N2 := Fr.snoc X2 N1 g_hm
 have Z2 : n0 ≤ h2.size := Nat.le_trans Z0 (Keep.of_wr W2).1
 have K2 : Keep h0 h2 [hm] := (Keep.refl h0 [hm]).wr W2 (Or.inl (List.mem_of_getElem? (i := 0) rfl))
 refine jaa X2 hx Bd hPf (by decide) (by decide) (dd 5 rfl) ?_
 rw [e2]
 exact ⟨rfl, N2, K2, f2_1, f2_2, f2_3, f2_4⟩
abbrev jkN (m : MethodId) (pc : Nat) (a0 : Slot) (S : List Value) : JFrame := mkF m pc #[a0] S
theorem oD69_10j : oDec jdk_69_method_10_code [(0, .aload_n 0, 1), (1, .getfield 156, 3), (4, .ireturn, 1)] := by decide +kernel
def jiq (Z : State) (hm : Addr) (sz : Int32) (h0 : Heap) (n0 : Nat) (v : Option Value) (h : Heap) (L : List Loc) : Prop := v = some (.int sz) ∧ Fr n0 L ∧ h = h0
theorem jgE (l : Launch) (Z : State) (a0 : Array Value) (hw : oH a0 Z) (ws : List Jvm.Cond) (hm : Addr) (sz : Int32) (h0 : Heap) (n0 : Nat) (Z0 : n0 ≤ h0.size) (Fs0 : Fld Z h0 hm S1' S8' "I" (.int sz)) :
  ji l Z (⟨S1', S8', "()I"⟩ : MethodName) jdk_69_method_10_code 1 (some .int) ws ({ frames := 0, cells := 0, slots := 0, locals := 0 } : Room) #[(.ref hm)] h0 (jiq Z hm sz h0 n0) := by
 refine jb (plainFor_of_name jp) (fun m => jr m hm) ?_
 intro p e s m below meth c s₁ Bd hx hby hml hown hZ X0 e0 Pf hPf
 have N0 := Fr.nil n0
 have dd := oD69_10j.hb hby
 have ow317 := ow hw 317 rfl
 refine ja (A := oW p e below s₁ (jkN m 1 (oR hm) [(.ref hm)])) (fun t k => by
  refine XS.aloadN X0.here hx rfl (dd 0 rfl) rfl rfl ?_
  exact k) ?_
 obtain ⟨T1, X1, e1, st1⟩ := getF X0 hx hZ hown (host := "") (Or.inl ow317) Via.refl e0 Fs0 (g := (jkN m 1 (oR hm) [(.ref hm)])) rfl rfl (dd 1 rfl)
 refine ja st1 ?_
 refine jaD X1 hx Bd hPf (by decide) (by decide) (dd 2 rfl) ?_
 rw [e1]
 exact ⟨rfl, N0, rfl⟩
abbrev jbr (m : MethodId) (pc : Nat) (a0 a1 a2 a3 a4 a5 a6 a7 a8 a9 a10 a11 a12 a13 : Slot) (S : List Value) : JFrame := mkF m pc #[a0, a1, a2, a3, a4, a5, a6, a7, a8, a9, a10, a11, a12, a13] S
theorem oD69_17j : oDec jdk_69_method_17_code [(0, .aload_n 0, 1), (1, .getfield 105, 3), (4, .astore_n 1, 1), (5, .aload_n 1, 1), (6, .ifnonnull 7, 3), (9, .iconst 0, 1), (10, .goto 5, 3), (13, .aload_n 1, 1), (14, .arraylength, 1), (15, .istore_n 2, 1), (16, .aload_n 0, 1), (17, .getfield 88, 3), (20, .istore_n 3, 1), (21, .iconst 0, 1), (22, .istore 5, 2), (24, .iload_n 2, 1), (25, .ifCond .le 42, 3), (28, .iload_n 2, 1), (29, .ldc 42, 2), (31, .if_icmp .lt 11, 3), (34, .aload_n 0, 1), (35, .ldc 209, 2), (37, .putfield 88, 3), (40, .aload_n 1, 1), (41, .areturn, 1), (42, .iload_n 2, 1), (43, .iconst 1, 1), (44, .ishl, 1), (45, .dup, 1), (46, .istore 4, 2), (48, .ldc 42, 2), (50, .if_icmp .ge 35, 3), (53, .iload_n 2, 1), (54, .bipush 16, 2), (56, .if_icmp .lt 29, 3), (59, .iload_n 3, 1), (60, .iconst 1, 1), (61, .ishl, 1), (62, .istore 5, 2), (64, .goto 21, 3), (67, .iload_n 3, 1), (68, .ifCond .le 9, 3), (71, .iload_n 3, 1), (72, .istore 4, 2), (74, .goto 11, 3), (77, .bipush 16, 2), (79, .istore 4, 2), (81, .bipush 12, 2), (83, .istore 5, 2), (85, .iload 5, 2), (87, .ifCond .ne 38, 3), (90, .iload 4, 2), (92, .i2f, 1), (93, .aload_n 0, 1), (94, .getfield 81, 3), (97, .fmul, 1), (98, .fstore 6, 2), (100, .iload 4, 2), (102, .ldc 42, 2), (104, .if_icmp .ge 17, 3), (107, .fload 6, 2), (109, .ldc 210, 2), (111, .fcmp .g, 1), (112, .ifCond .ge 9, 3), (115, .fload 6, 2), (117, .f2i, 1), (118, .goto 5, 3), (121, .ldc 209, 2), (123, .istore 5, 2), (125, .aload_n 0, 1), (126, .iload 5, 2), (128, .putfield 88, 3), (131, .iload 4, 2), (133, .anewarray 163, 3), (136, .astore 6, 2), (138, .aload_n 0, 1), (139, .aload 6, 2), (141, .putfield 105, 3), (144, .aload_n 1, 1), (145, .ifnull 208, 3), (148, .iconst 0, 1), (149, .istore 7, 2), (151, .iload 7, 2), (153, .iload_n 2, 1), (154, .if_icmp .ge 199, 3), (157, .aload_n 1, 1), (158, .iload 7, 2), (160, .aaload, 1), (161, .dup, 1), (162, .astore 8, 2), (164, .ifnull 183, 3), (167, .aload_n 1, 1), (168, .iload 7, 2), (170, .aconst_null, 1), (171, .aastore, 1), (172, .aload 8, 2), (174, .getfield 177, 3), (177, .ifnonnull 21, 3), (180, .aload 6, 2), (182, .aload 8, 2), (184, .getfield 168, 3), (187, .iload 4, 2), (189, .iconst 1, 1), (190, .isub, 1), (191, .iand, 1), (192, .aload 8, 2), (194, .aastore, 1), (195, .goto 152, 3), (198, .aload 8, 2), (200, .instanceof 180, 3), (203, .ifCond .eq 20, 3), (206, .aload 8, 2), (208, .checkcast 180, 3), (211, .aload_n 0, 1), (212, .aload 6, 2), (214, .iload 7, 2), (216, .iload_n 2, 1), (217, .invokevirtual 211, 3), (220, .goto 127, 3), (223, .aconst_null, 1), (224, .astore 9, 2), (226, .aconst_null, 1), (227, .astore 10, 2), (229, .aconst_null, 1), (230, .astore 11, 2), (232, .aconst_null, 1), (233, .astore 12, 2), (235, .aload 8, 2), (237, .getfield 177, 3), (240, .astore 13, 2), (242, .aload 8, 2), (244, .getfield 168, 3), (247, .iload_n 2, 1), (248, .iand, 1), (249, .ifCond .ne 29, 3), (252, .aload 10, 2), (254, .ifnonnull 10, 3), (257, .aload 8, 2), (259, .astore 9, 2), (261, .goto 10, 3), (264, .aload 10, 2), (266, .aload 8, 2), (268, .putfield 177, 3), (271, .aload 8, 2), (273, .astore 10, 2), (275, .goto 26, 3), (278, .aload 12, 2), (280, .ifnonnull 10, 3), (283, .aload 8, 2), (285, .astore 11, 2), (287, .goto 10, 3), (290, .aload 12, 2), (292, .aload 8, 2), (294, .putfield 177, 3), (297, .aload 8, 2), (299, .astore 12, 2), (301, .aload 13, 2), (303, .dup, 1), (304, .astore 8, 2), (306, .ifnonnull (-71), 3), (309, .aload 10, 2), (311, .ifnull 16, 3), (314, .aload 10, 2), (316, .aconst_null, 1), (317, .putfield 177, 3), (320, .aload 6, 2), (322, .iload 7, 2), (324, .aload 9, 2), (326, .aastore, 1), (327, .aload 12, 2), (329, .ifnull 18, 3), (332, .aload 12, 2), (334, .aconst_null, 1), (335, .putfield 177, 3), (338, .aload 6, 2), (340, .iload 7, 2), (342, .iload_n 2, 1), (343, .iadd, 1), (344, .aload 11, 2), (346, .aastore, 1), (347, .iinc 7 1, 3), (350, .goto (-199), 3), (353, .aload 6, 2), (355, .areturn, 1)] := by decide +kernel
theorem jjJ {a0 : Array Value} {Z : State} (hw : oH a0 Z) : jc Z S1' S22' S16' ≠ jc Z S1' S23' "I" := jg (C := S1') (Or.inl (ow hw 361 rfl)) (Or.inl (ow hw 368 rfl)) (by decide) rfl rfl
theorem jjK {a0 : Array Value} {Z : State} (hw : oH a0 Z) : jc Z S1' S8' "I" ≠ jc Z S1' S23' "I" := jg (C := S1') (Or.inl (ow hw 318 rfl)) (Or.inl (ow hw 368 rfl)) (by decide) rfl rfl
theorem jjL {a0 : Array Value} {Z : State} (hw : oH a0 Z) : jc Z S1' S12' "I" ≠ jc Z S1' S23' "I" := jg (C := S1') (Or.inl (ow hw 392 rfl)) (Or.inl (ow hw 368 rfl)) (by decide) rfl rfl
theorem jjM {a0 : Array Value} {Z : State} (hw : oH a0 Z) : jc Z S1' S8' "I" ≠ jc Z S1' S22' S16' := jg (C := S1') (Or.inl (ow hw 318 rfl)) (Or.inl (ow hw 361 rfl)) (by decide) rfl rfl
theorem jjN {a0 : Array Value} {Z : State} (hw : oH a0 Z) : jc Z S1' S23' "I" ≠ jc Z S1' S22' S16' := jg (C := S1') (Or.inl (ow hw 368 rfl)) (Or.inl (ow hw 361 rfl)) (by decide) rfl rfl
theorem jjO {a0 : Array Value} {Z : State} (hw : oH a0 Z) : jc Z S1' S12' "I" ≠ jc Z S1' S22' S16' := jg (C := S1') (Or.inl (ow hw 392 rfl)) (Or.inl (ow hw 361 rfl)) (by decide) rfl rfl
theorem jeR (m : MethodId) (x0 : Addr) : entryFrame m #[(.ref x0)] 14 = mkF m 0 #[(oR x0), ou, ou, ou, ou, ou, ou, ou, ou, ou, ou, ou, ou, ou] [] := by first | (simp [entryFrame, mkF, argsToLocals, Value.category]; done) | rfl
def jir (Z : State) (hm : Addr)  (h0 : Heap) (n0 : Nat) (v : Option Value) (h : Heap) (L : List Loc) : Prop := ∃ (tb : Addr) (kt : ClassId), v = some (.ref tb) ∧ Fr n0 L ∧ Keep h0 h [hm] ∧ h0.size ≤ tb ∧ Exa Z h tb S16' ∧ Ovr Z kt S5' ∧ Arv Z h tb kt (.object S5') (16 : Int32) [.null, .null, .null, .null, .null, .null, .null, .null, .null, .null, .null, .null, .null, .null, .null, .null] .null ∧ Fld Z h hm S1' S22' S16' (.ref tb) ∧ Fld Z h hm S1' S8' "I" (.int 0) ∧ Fld Z h hm S1' S23' "I" (.int 12) ∧ Fld Z h hm S1' S12' "I" (.int 0)
theorem jgF (l : Launch) (Z : State) (a0 : Array Value) (hw : oH a0 Z) (ws : List Jvm.Cond) (hm : Addr)  (h0 : Heap) (n0 : Nat) (Z0 : n0 ≤ h0.size) (Em0 : Exa Z h0 hm S1') (g_hm : n0 ≤ hm) (Ft0 : Fld Z h0 hm S1' S22' S16' .null) (Fs0 : Fld Z h0 hm S1' S8' "I" (.int 0)) (Fh0 : Fld Z h0 hm S1' S23' "I" (.int 0)) (Fm0 : Fld Z h0 hm S1' S12' "I" (.int 0)) :
  ji l Z (⟨S1', "resize", "()[Ljava/util/HashMap$Node;"⟩ : MethodName) jdk_69_method_17_code 14 (some (.array (.object S5'))) ws ({ frames := 0, cells := 1, slots := 16, locals := 0 } : Room) #[(.ref hm)] h0 (jir Z hm h0 n0) := by
 refine jb (plainFor_of_name jp) (fun m => jeR m hm) ?_
 intro p e s m below meth c s₁ Bd hx hby hml hown hZ X0 e0 Pf hPf
 have N0 := Fr.nil n0
 have dd := oD69_17j.hb hby
 have ow119 := ow hw 119 rfl
 have ow360 := ow hw 360 rfl
 have ow361 := ow hw 361 rfl
 have ow367 := ow hw 367 rfl
 have ow368 := ow hw 368 rfl
 have ow369 := ow hw 369 rfl
 have ow370 := ow hw 370 rfl
 refine ja (A := oW p e below s₁ (jbr m 1 (oR hm) ou ou ou ou ou ou ou ou ou ou ou ou ou [(.ref hm)])) (fun t k => by
  refine XS.aloadN X0.here hx rfl (dd 0 rfl) rfl rfl ?_
  exact k) ?_
 obtain ⟨T1, X1, e1, st1⟩ := getF X0 hx hZ hown (host := "") (Or.inl ow360) Via.refl e0 Ft0 (g := (jbr m 1 (oR hm) ou ou ou ou ou ou ou ou ou ou ou ou ou [(.ref hm)])) rfl rfl (dd 1 rfl)
 refine ja st1 ?_
 refine ja (A := oW p e below T1 (jbr m 17 (oR hm) (.val .null) (oi 0) ou ou ou ou ou ou ou ou ou ou ou [(.ref hm)])) (fun t k => by
  refine XS.astoreN X1.here hx rfl (dd 2 rfl) rfl rfl (l' := #[(oR hm), (.val .null), ou, ou, ou, ou, ou, ou, ou, ou, ou, ou, ou, ou]) rfl ?_
  refine XS.aloadN X1.here hx rfl (dd 3 rfl) rfl rfl ?_
  refine XS.ifnonnullNo X1.here hx rfl (dd 4 rfl) rfl ?_
  refine XS.iconst X1.here hx rfl (dd 5 rfl) ?_
  show oW p e below T1 (jbr m 10 (oR hm) (.val .null) ou ou ou ou ou ou ou ou ou ou ou ou [(.int 0)]) _
  refine XS.goto X1.here hx rfl (pc0 := 10) (pc' := 15) rfl (dd 6 rfl) (by decide) (by decide) ?_
  refine XS.istoreN X1.here hx rfl (dd 9 rfl) rfl (l' := #[(oR hm), (.val .null), (oi 0), ou, ou, ou, ou, ou, ou, ou, ou, ou, ou, ou]) rfl ?_
  refine XS.aloadN X1.here hx rfl (dd 10 rfl) rfl rfl ?_
  exact k) ?_
 obtain ⟨T2, X2, e2, st2⟩ := getF X1 hx hZ hown (host := "") (Or.inl ow367) Via.refl e1 Fh0 (g := (jbr m 17 (oR hm) (.val .null) (oi 0) ou ou ou ou ou ou ou ou ou ou ou [(.ref hm)])) rfl rfl (dd 11 rfl)
 refine ja st2 ?_
 refine ja (A := oW p e below T2 (jbr m 128 (oR hm) (.val .null) (oi 0) (oi 0) (oi 16) (oi 12) ou ou ou ou ou ou ou ou [(.int 12), (.ref hm)])) (fun t k => by
  refine XS.istoreN X2.here hx rfl (dd 12 rfl) rfl (l' := #[(oR hm), (.val .null), (oi 0), (oi 0), ou, ou, ou, ou, ou, ou, ou, ou, ou, ou]) rfl ?_
  refine XS.iconst X2.here hx rfl (dd 13 rfl) ?_
  show oW p e below T2 (jbr m 22 (oR hm) (.val .null) (oi 0) (oi 0) ou ou ou ou ou ou ou ou ou ou [(.int 0)]) _
  refine XS.istore X2.here hx rfl (dd 14 rfl) rfl (l' := #[(oR hm), (.val .null), (oi 0), (oi 0), ou, (oi 0), ou, ou, ou, ou, ou, ou, ou, ou]) rfl ?_
  refine XS.iloadN X2.here hx rfl (dd 15 rfl) rfl ?_
  refine XS.ifYes X2.here hx rfl (pc0 := 25) (pc' := 67) rfl (dd 16 rfl) rfl ((if0 _ _).trans (flt (by decide : ¬ ((0 : Int32) < (0 : Int32)))).2.2.2) (by decide) (by decide) ?_
  refine XS.iloadN X2.here hx rfl (dd 40 rfl) rfl ?_
  refine XS.ifYes X2.here hx rfl (pc0 := 68) (pc' := 77) rfl (dd 41 rfl) rfl ((if0 _ _).trans (flt (by decide : ¬ ((0 : Int32) < (0 : Int32)))).2.2.2) (by decide) (by decide) ?_
  show oW p e below T2 (jbr m 77 (oR hm) (.val .null) (oi 0) (oi 0) ou (oi 0) ou ou ou ou ou ou ou ou []) _
  refine XS.bipush X2.here hx rfl (dd 45 rfl) ?_
  refine XS.istore X2.here hx rfl (dd 46 rfl) rfl (l' := #[(oR hm), (.val .null), (oi 0), (oi 0), (oi 16), (oi 0), ou, ou, ou, ou, ou, ou, ou, ou]) rfl ?_
  refine XS.bipush X2.here hx rfl (dd 47 rfl) ?_
  refine XS.istore X2.here hx rfl (dd 48 rfl) rfl (l' := #[(oR hm), (.val .null), (oi 0), (oi 0), (oi 16), (oi 12), ou, ou, ou, ou, ou, ou, ou, ou]) rfl ?_
  refine XS.iload X2.here hx rfl (dd 49 rfl) rfl ?_
  show oW p e below T2 (jbr m 87 (oR hm) (.val .null) (oi 0) (oi 0) (oi 16) (oi 12) ou ou ou ou ou ou ou ou [(.int 12)]) _
  refine XS.ifYes X2.here hx rfl (pc0 := 87) (pc' := 125) rfl (dd 50 rfl) rfl ((if0 _ _).trans (feq (by decide : ¬ ((12 : Int32) = (0 : Int32)))).2) (by decide) (by decide) ?_
  refine XS.aloadN X2.here hx rfl (dd 69 rfl) rfl rfl ?_
  refine XS.iload X2.here hx rfl (dd 70 rfl) rfl ?_
  exact k) ?_
 obtain ⟨T3, h3, X3, e3, W3, st3⟩ := putF X2 hx hZ hown (host := "") (Or.inl ow367) Via.refl e2 Fh0 Em0 (Or.inl ow368) ow119 (ty := .int) (by decide) rfl rfl (g := (jbr m 128 (oR hm) (.val .null) (oi 0) (oi 0) (oi 16) (oi 12) ou ou ou ou ou ou ou ou [(.int 12), (.ref hm)])) rfl rfl (dd 71 rfl)
 refine ja st3 ?_
 have f3_1 := Ft0.other W3 (Or.inr (jjJ hw))
 have f3_2 := Fs0.other W3 (Or.inr (jjK hw))
 have f3_3 : Fld Z h3 hm S1' S23' "I" (.int 12) := Fh0.same W3
 have f3_4 := Fm0.other W3 (Or.inr (jjL hw))
 have N3 := Fr.snoc X3 N0 g_hm
 have Z3 : n0 ≤ h3.size := Nat.le_trans Z0 (Keep.of_wr W3).1
 have K3 : Keep h0 h3 [hm] := (Keep.refl h0 [hm]).wr W3 (Or.inl (List.mem_of_getElem? (i := 0) rfl))
 refine ja (A := oW p e below T3 (jbr m 133 (oR hm) (.val .null) (oi 0) (oi 0) (oi 16) (oi 12) ou ou ou ou ou ou ou ou [(.int 16)])) (fun t k => by
  refine XS.iload X3.here hx rfl (dd 72 rfl) rfl ?_
  exact k) ?_
 obtain ⟨T4, h4, k4, X4, e4, E4, A4, Q4, O4, st4⟩ := newRE X3 hx hZ hown ow369 ow370 e3 (g := (jbr m 133 (oR hm) (.val .null) (oi 0) (oi 0) (oi 16) (oi 12) ou ou ou ou ou ou ou ou [(.int 16)])) rfl (dd 73 rfl) rfl (by decide) (cap := 16) (by decide) (by decide) (by decide) (by decide) (ad := S16') (by decide)
 obtain ⟨b4, g4⟩ : ∃ z, z = h3.size := ⟨_, rfl⟩
 rw [← g4] at A4 Q4 st4
 refine ja st4 ?_
 have ne_hm_b4 : hm ≠ b4 := Nat.ne_of_lt (Nat.lt_of_lt_of_le (Em0.wr W3).lt (Nat.le_of_eq g4.symm))
 have g_b4 : n0 ≤ b4 := Nat.le_trans Z3 (Nat.le_of_eq g4.symm)
 have Z4 : n0 ≤ h4.size := Nat.le_trans Z3 E4.1
 have sz_b4 : h0.size ≤ b4 := Nat.le_trans K3.1 (Nat.le_of_eq g4.symm)
 have K4 : Keep h0 h4 [hm] := K3.ext E4
 have U4 : Arv Z h4 b4 k4 (.object S5') (16 : Int32) [] .null := Arv.new A4 (by decide)
 have V4 : Arv Z h4 b4 k4 (.object S5') (16 : Int32) [.null, .null, .null, .null, .null, .null, .null, .null, .null, .null, .null, .null, .null, .null, .null, .null] .null := U4.pad (pad_rep [] .null 16)
 refine ja (A := oW p e below T4 (jbr m 141 (oR hm) (.val .null) (oi 0) (oi 0) (oi 16) (oi 12) (oR b4) ou ou ou ou ou ou ou [(.ref b4), (.ref hm)])) (fun t k => by
  refine XS.astore X4.here hx rfl (dd 74 rfl) rfl rfl (l' := #[(oR hm), (.val .null), (oi 0), (oi 0), (oi 16), (oi 12), (oR b4), ou, ou, ou, ou, ou, ou, ou]) rfl ?_
  show oW p e below T4 (jbr m 138 (oR hm) (.val .null) (oi 0) (oi 0) (oi 16) (oi 12) (oR b4) ou ou ou ou ou ou ou []) _
  refine XS.aloadN X4.here hx rfl (dd 75 rfl) rfl rfl ?_
  refine XS.aload X4.here hx rfl (dd 76 rfl) rfl rfl ?_
  exact k) ?_
 obtain ⟨T5, h5, X5, e5, W5, st5⟩ := putF X4 hx hZ hown (host := "") (Or.inl ow360) Via.refl e4 (f3_1.ext E4) ((Em0.wr W3).ext E4) (Or.inl ow361) ow119 (ty := (.array (.object S5'))) (by decide) rfl rfl (g := (jbr m 141 (oR hm) (.val .null) (oi 0) (oi 0) (oi 16) (oi 12) (oR b4) ou ou ou ou ou ou ou [(.ref b4), (.ref hm)])) rfl rfl (dd 77 rfl)
 refine ja st5 ?_
 have f5_1 : Fld Z h5 hm S1' S22' S16' (.ref b4) := (f3_1.ext E4).same W5
 have f5_2 := (f3_2.ext E4).other W5 (Or.inr (jjM hw))
 have f5_3 := (f3_3.ext E4).other W5 (Or.inr (jjN hw))
 have f5_4 := (f3_4.ext E4).other W5 (Or.inr (jjO hw))
 have f5_5 := V4.other W5 ((Ne.symm ne_hm_b4))
 have N5 := Fr.snoc X5 N3 g_hm
 have Z5 : n0 ≤ h5.size := Nat.le_trans Z4 (Keep.of_wr W5).1
 have K5 : Keep h0 h5 [hm] := K4.wr W5 (Or.inl (List.mem_of_getElem? (i := 0) rfl))
 refine ja (A := oW p e below T5 (jbr m 355 (oR hm) (.val .null) (oi 0) (oi 0) (oi 16) (oi 12) (oR b4) ou ou ou ou ou ou ou [(.ref b4)])) (fun t k => by
  refine XS.aloadN X5.here hx rfl (dd 78 rfl) rfl rfl ?_
  refine XS.ifnullYes X5.here hx rfl (pc0 := 145) (pc' := 353) rfl (dd 79 rfl) rfl (by decide) (by decide) ?_
  refine XS.aload X5.here hx rfl (dd 182 rfl) rfl rfl ?_
  exact k) ?_
 refine jE X5 hx Bd hPf (by decide) (by decide) rfl rfl rfl (dd 183 rfl) ?_
 rw [e5]
 exact ⟨b4, k4, rfl, N5, K5, sz_b4, (Q4.wr W5), O4, f5_5, f5_1, f5_2, f5_3, f5_4⟩
abbrev jcv (m : MethodId) (pc : Nat) (a0 a1 a2 a3 a4 : Slot) (S : List Value) : JFrame := mkF m pc #[a0, a1, a2, a3, a4] S
theorem oD70_1j : oDec jdk_70_method_1_code [(0, .aload_n 0, 1), (1, .invokespecial 1, 3), (4, .aload_n 0, 1), (5, .iload_n 1, 1), (6, .putfield 7, 3), (9, .aload_n 0, 1), (10, .aload_n 2, 1), (11, .putfield 13, 3), (14, .aload_n 0, 1), (15, .aload_n 3, 1), (16, .putfield 17, 3), (19, .aload_n 0, 1), (20, .aload 4, 2), (22, .putfield 20, 3), (25, .return_, 1)] := by decide +kernel
theorem jjP {a0 : Array Value} {Z : State} (hw : oH a0 Z) : jc Z S5' "key" S9' ≠ jc Z S5' "hash" "I" := jg (C := S5') (Or.inr (ow hw 386 rfl)) (Or.inr (ow hw 384 rfl)) (by decide) rfl rfl
theorem jjQ {a0 : Array Value} {Z : State} (hw : oH a0 Z) : jc Z S5' S21' S9' ≠ jc Z S5' "hash" "I" := jg (C := S5') (Or.inl (ow hw 388 rfl)) (Or.inr (ow hw 384 rfl)) (by decide) rfl rfl
theorem jjR {a0 : Array Value} {Z : State} (hw : oH a0 Z) : jc Z S5' "next" S31' ≠ jc Z S5' "hash" "I" := jg (C := S5') (Or.inl (ow hw 390 rfl)) (Or.inr (ow hw 384 rfl)) (by decide) rfl rfl
theorem jjS {a0 : Array Value} {Z : State} (hw : oH a0 Z) : jc Z S5' "hash" "I" ≠ jc Z S5' "key" S9' := jg (C := S5') (Or.inr (ow hw 384 rfl)) (Or.inr (ow hw 386 rfl)) (by decide) rfl rfl
theorem jjT {a0 : Array Value} {Z : State} (hw : oH a0 Z) : jc Z S5' S21' S9' ≠ jc Z S5' "key" S9' := jg (C := S5') (Or.inl (ow hw 388 rfl)) (Or.inr (ow hw 386 rfl)) (by decide) rfl rfl
theorem jjU {a0 : Array Value} {Z : State} (hw : oH a0 Z) : jc Z S5' "next" S31' ≠ jc Z S5' "key" S9' := jg (C := S5') (Or.inl (ow hw 390 rfl)) (Or.inr (ow hw 386 rfl)) (by decide) rfl rfl
theorem jjV {a0 : Array Value} {Z : State} (hw : oH a0 Z) : jc Z S5' "hash" "I" ≠ jc Z S5' S21' S9' := jg (C := S5') (Or.inr (ow hw 384 rfl)) (Or.inl (ow hw 388 rfl)) (by decide) rfl rfl
theorem jjW {a0 : Array Value} {Z : State} (hw : oH a0 Z) : jc Z S5' "key" S9' ≠ jc Z S5' S21' S9' := jg (C := S5') (Or.inr (ow hw 386 rfl)) (Or.inl (ow hw 388 rfl)) (by decide) rfl rfl
theorem jjX {a0 : Array Value} {Z : State} (hw : oH a0 Z) : jc Z S5' "next" S31' ≠ jc Z S5' S21' S9' := jg (C := S5') (Or.inl (ow hw 390 rfl)) (Or.inl (ow hw 388 rfl)) (by decide) rfl rfl
theorem jjY {a0 : Array Value} {Z : State} (hw : oH a0 Z) : jc Z S5' "hash" "I" ≠ jc Z S5' "next" S31' := jg (C := S5') (Or.inr (ow hw 384 rfl)) (Or.inl (ow hw 390 rfl)) (by decide) rfl rfl
theorem jjZ {a0 : Array Value} {Z : State} (hw : oH a0 Z) : jc Z S5' "key" S9' ≠ jc Z S5' "next" S31' := jg (C := S5') (Or.inr (ow hw 386 rfl)) (Or.inl (ow hw 390 rfl)) (by decide) rfl rfl
theorem jka {a0 : Array Value} {Z : State} (hw : oH a0 Z) : jc Z S5' S21' S9' ≠ jc Z S5' "next" S31' := jg (C := S5') (Or.inl (ow hw 388 rfl)) (Or.inl (ow hw 390 rfl)) (by decide) rfl rfl
theorem jcw (m : MethodId) (x0 : Addr) (x1 : Int32) (x2 : Addr) (x3 : Addr) : entryFrame m #[(.ref x0), (.int x1), (.ref x2), (.ref x3), .null] 5 = mkF m 0 #[(oR x0), (oi x1), (oR x2), (oR x3), (.val .null)] [] := by first | (simp [entryFrame, mkF, argsToLocals, Value.category]; done) | rfl
def jis (Z : State) (nd : Addr) (hs : Int32) (ky : Addr) (vl : Addr)  (h0 : Heap) (n0 : Nat) (v : Option Value) (h : Heap) (L : List Loc) : Prop := v = none ∧ Fr n0 L ∧ Keep h0 h [nd] ∧ Fld Z h nd S5' "hash" "I" (.int hs) ∧ Fld Z h nd S5' "key" S9' (.ref ky) ∧ Fld Z h nd S5' S21' S9' (.ref vl) ∧ Fld Z h nd S5' "next" S31' .null
theorem jbp : plainName "java/util/HashMap$Node" = true := by first | (simp [plainName, overriddenIn]; done) | decide +kernel
theorem jgG (l : Launch) (Z : State) (a0 : Array Value) (hw : oH a0 Z) (ws : List Jvm.Cond) (nd : Addr) (hs : Int32) (ky : Addr) (vl : Addr)  (h0 : Heap) (n0 : Nat) (Z0 : n0 ≤ h0.size) (En0 : Exa Z h0 nd S5') (g_nd : n0 ≤ nd) (Fn0 : Fld Z h0 nd S5' "hash" "I" (.int 0)) (Fn1 : Fld Z h0 nd S5' "key" S9' .null) (Fn2 : Fld Z h0 nd S5' S21' S9' .null) (Fn3 : Fld Z h0 nd S5' "next" S31' .null) :
  ji l Z (⟨S5', S27', "(ILjava/lang/Object;Ljava/lang/Object;Ljava/util/HashMap$Node;)V"⟩ : MethodName) jdk_70_method_1_code 5 none ws ({ frames := 1, cells := 0, slots := 0, locals := 12 } : Room) #[(.ref nd), (.int hs), (.ref ky), (.ref vl), .null] h0 (jis Z nd hs ky vl h0 n0) := by
 refine jb (plainFor_of_name jbp) (fun m => jcw m nd hs ky vl) ?_
 intro p e s m below meth c s₁ Bd hx hby hml hown hZ X0 e0 Pf hPf
 have N0 := Fr.nil n0
 have dd := oD70_1j.hb hby
 have hnm := (name_of_methodNamed Bd.named Bd.method).1
 have ow20 := ow hw 20 rfl
 have ow21 := ow hw 21 rfl
 have ow376 := ow hw 376 rfl
 have ow382 := ow hw 382 rfl
 have ow383 := ow hw 383 rfl
 have ow384 := ow hw 384 rfl
 have ow385 := ow hw 385 rfl
 have ow386 := ow hw 386 rfl
 have ow387 := ow hw 387 rfl
 have ow388 := ow hw 388 rfl
 have ow389 := ow hw 389 rfl
 have ow390 := ow hw 390 rfl
 refine ja (A := oW p e below s₁ (jcv m 1 (oR nd) (oi hs) (oR ky) (oR vl) (.val .null) [(.ref nd)])) (fun t k => by
  refine XS.aloadN X0.here hx rfl (dd 0 rfl) rfl rfl ?_
  exact k) ?_
 obtain ⟨T1, X1, e1, st1⟩ := initO X0 hx hZ hown ow382 ow20 ow21 e0 (g := (jcv m 1 (oR nd) (oi hs) (oR ky) (oR vl) (.val .null) [(.ref nd)])) rfl (by rw [hml]; rfl) rfl (dd 1 rfl) (by decide) (W := 0) (by show 2 * 0 + _ ≤ _; exact Nat.le_of_eq rfl) (by decide)
 refine ja st1 ?_
 refine ja (A := oW p e below T1 (jcv m 6 (oR nd) (oi hs) (oR ky) (oR vl) (.val .null) [(.int hs), (.ref nd)])) (fun t k => by
  refine XS.aloadN X1.here hx rfl (dd 2 rfl) rfl rfl ?_
  refine XS.iloadN X1.here hx rfl (dd 3 rfl) rfl ?_
  exact k) ?_
 obtain ⟨T2, h2, X2, e2, W2, st2⟩ := putF X1 hx hZ hown (host := "") (Or.inl ow383) Via.refl e1 Fn0 En0 (Or.inr ⟨ow384, rfl, hnm⟩) ow376 (ty := .int) (by decide) rfl rfl (g := (jcv m 6 (oR nd) (oi hs) (oR ky) (oR vl) (.val .null) [(.int hs), (.ref nd)])) rfl rfl (dd 4 rfl)
 refine ja st2 ?_
 have f2_1 : Fld Z h2 nd S5' "hash" "I" (.int hs) := Fn0.same W2
 have f2_2 := Fn1.other W2 (Or.inr (jjP hw))
 have f2_3 := Fn2.other W2 (Or.inr (jjQ hw))
 have f2_4 := Fn3.other W2 (Or.inr (jjR hw))
 have N2 := Fr.snoc X2 N0 g_nd
 have Z2 : n0 ≤ h2.size := Nat.le_trans Z0 (Keep.of_wr W2).1
 have K2 : Keep h0 h2 [nd] := (Keep.refl h0 [nd]).wr W2 (Or.inl (List.mem_of_getElem? (i := 0) rfl))
 refine ja (A := oW p e below T2 (jcv m 11 (oR nd) (oi hs) (oR ky) (oR vl) (.val .null) [(.ref ky), (.ref nd)])) (fun t k => by
  refine XS.aloadN X2.here hx rfl (dd 5 rfl) rfl rfl ?_
  refine XS.aloadN X2.here hx rfl (dd 6 rfl) rfl rfl ?_
  exact k) ?_
 obtain ⟨T3, h3, X3, e3, W3, st3⟩ := putF X2 hx hZ hown (host := "") (Or.inl ow385) Via.refl e2 f2_2 (En0.wr W2) (Or.inr ⟨ow386, rfl, hnm⟩) ow376 (ty := (.object S0')) (by decide) rfl rfl (g := (jcv m 11 (oR nd) (oi hs) (oR ky) (oR vl) (.val .null) [(.ref ky), (.ref nd)])) rfl rfl (dd 7 rfl)
 refine ja st3 ?_
 have f3_1 := f2_1.other W3 (Or.inr (jjS hw))
 have f3_2 : Fld Z h3 nd S5' "key" S9' (.ref ky) := f2_2.same W3
 have f3_3 := f2_3.other W3 (Or.inr (jjT hw))
 have f3_4 := f2_4.other W3 (Or.inr (jjU hw))
 have N3 := Fr.snoc X3 N2 g_nd
 have Z3 : n0 ≤ h3.size := Nat.le_trans Z2 (Keep.of_wr W3).1
 have K3 : Keep h0 h3 [nd] := K2.wr W3 (Or.inl (List.mem_of_getElem? (i := 0) rfl))
 refine ja (A := oW p e below T3 (jcv m 16 (oR nd) (oi hs) (oR ky) (oR vl) (.val .null) [(.ref vl), (.ref nd)])) (fun t k => by
  refine XS.aloadN X3.here hx rfl (dd 8 rfl) rfl rfl ?_
  refine XS.aloadN X3.here hx rfl (dd 9 rfl) rfl rfl ?_
  exact k) ?_
 obtain ⟨T4, h4, X4, e4, W4, st4⟩ := putF X3 hx hZ hown (host := "") (Or.inl ow387) Via.refl e3 f3_3 ((En0.wr W2).wr W3) (Or.inl ow388) ow376 (ty := (.object S0')) (by decide) rfl rfl (g := (jcv m 16 (oR nd) (oi hs) (oR ky) (oR vl) (.val .null) [(.ref vl), (.ref nd)])) rfl rfl (dd 10 rfl)
 refine ja st4 ?_
 have f4_1 := f3_1.other W4 (Or.inr (jjV hw))
 have f4_2 := f3_2.other W4 (Or.inr (jjW hw))
 have f4_3 : Fld Z h4 nd S5' S21' S9' (.ref vl) := f3_3.same W4
 have f4_4 := f3_4.other W4 (Or.inr (jjX hw))
 have N4 := Fr.snoc X4 N3 g_nd
 have Z4 : n0 ≤ h4.size := Nat.le_trans Z3 (Keep.of_wr W4).1
 have K4 : Keep h0 h4 [nd] := K3.wr W4 (Or.inl (List.mem_of_getElem? (i := 0) rfl))
 refine ja (A := oW p e below T4 (jcv m 22 (oR nd) (oi hs) (oR ky) (oR vl) (.val .null) [.null, (.ref nd)])) (fun t k => by
  refine XS.aloadN X4.here hx rfl (dd 11 rfl) rfl rfl ?_
  refine XS.aload X4.here hx rfl (dd 12 rfl) rfl rfl ?_
  exact k) ?_
 obtain ⟨T5, h5, X5, e5, W5, st5⟩ := putF X4 hx hZ hown (host := "") (Or.inl ow389) Via.refl e4 f4_4 (((En0.wr W2).wr W3).wr W4) (Or.inl ow390) ow376 (ty := (.object S5')) (by decide) rfl rfl (g := (jcv m 22 (oR nd) (oi hs) (oR ky) (oR vl) (.val .null) [.null, (.ref nd)])) rfl rfl (dd 13 rfl)
 refine ja st5 ?_
 have f5_1 := f4_1.other W5 (Or.inr (jjY hw))
 have f5_2 := f4_2.other W5 (Or.inr (jjZ hw))
 have f5_3 := f4_3.other W5 (Or.inr (jka hw))
 have f5_4 : Fld Z h5 nd S5' "next" S31' .null := f4_4.same W5
 have N5 := Fr.snoc X5 N4 g_nd
 have Z5 : n0 ≤ h5.size := Nat.le_trans Z4 (Keep.of_wr W5).1
 have K5 : Keep h0 h5 [nd] := K4.wr W5 (Or.inl (List.mem_of_getElem? (i := 0) rfl))
 refine jaa X5 hx Bd hPf (by decide) (by decide) (dd 14 rfl) ?_
 rw [e5]
 exact ⟨rfl, N5, K5, f5_1, f5_2, f5_3, f5_4⟩
abbrev jit (m : MethodId) (pc : Nat) (a0 a1 a2 a3 a4 : Slot) (S : List Value) : JFrame := mkF m pc #[a0, a1, a2, a3, a4] S
theorem oD69_46j : oDec jdk_69_method_46_code [(0, .new 163, 3), (3, .dup, 1), (4, .iload_n 1, 1), (5, .aload_n 2, 1), (6, .aload_n 3, 1), (7, .aload 4, 2), (9, .invokespecial 375, 3), (12, .areturn, 1)] := by decide +kernel
theorem jN : parseMethodDescriptor "(ILjava/lang/Object;Ljava/lang/Object;Ljava/util/HashMap$Node;)V" = some ⟨[.int, (.object "java/lang/Object"), (.object "java/lang/Object"), (.object "java/util/HashMap$Node")], none⟩ := by decide +kernel
def jiu (Z : State) (hm : Addr) (hs : Int32) (ky : Addr) (vl : Addr)  (h0 : Heap) (n0 : Nat) (v : Option Value) (h : Heap) (L : List Loc) : Prop := ∃ nd : Addr, v = some (.ref nd) ∧ Fr n0 L ∧ Keep h0 h [] ∧ h0.size ≤ nd ∧ Exa Z h nd S5' ∧ Fld Z h nd S5' "hash" "I" (.int hs) ∧ Fld Z h nd S5' "key" S9' (.ref ky) ∧ Fld Z h nd S5' S21' S9' (.ref vl) ∧ Fld Z h nd S5' "next" S31' .null
theorem jdC (l : Launch) (Z : State) (a0 : Array Value) (hw : oH a0 Z) (ws : List Jvm.Cond) (hm : Addr) (hs : Int32) (ky : Addr) (vl : Addr)  (h0 : Heap) (n0 : Nat) (Z0 : n0 ≤ h0.size) :
  ji l Z (⟨S1', "newNode", "(ILjava/lang/Object;Ljava/lang/Object;Ljava/util/HashMap$Node;)Ljava/util/HashMap$Node;"⟩ : MethodName) jdk_69_method_46_code 5 (some (.object S5')) ws ({ frames := 2, cells := 1, slots := 4, locals := 29 } : Room) #[(.ref hm), (.int hs), (.ref ky), (.ref vl), .null] h0 (jiu Z hm hs ky vl h0 n0) := by
 refine jb (plainFor_of_name jp) (fun m => jcw m hm hs ky vl) ?_
 intro p e s m below meth c s₁ Bd hx hby hml hown hZ X0 e0 Pf hPf
 have N0 := Fr.nil n0
 have dd := oD69_46j.hb hby
 have ow369 := ow hw 369 rfl
 have ow376 := ow hw 376 rfl
 have ow377 := ow hw 377 rfl
 have ow378 := ow hw 378 rfl
 have ow379 := ow hw 379 rfl
 have ow381 := ow hw 381 rfl
 have ow384 := ow hw 384 rfl
 have ow386 := ow hw 386 rfl
 have ow388 := ow hw 388 rfl
 have ow390 := ow hw 390 rfl
 obtain ⟨T1, h1, X1, e1, E1, A1, D1, -, st1⟩ := newO X0 hx hZ hown ow369 ow376 ow377 e0 (g := (jit m 0 (oR hm) (oi hs) (oR ky) (oR vl) (.val .null) [])) rfl (dd 0 rfl) (by decide) (by decide)
 obtain ⟨b1, g1⟩ : ∃ z, z = h0.size := ⟨_, rfl⟩
 rw [← g1] at A1 D1 st1
 refine ja st1 ?_
 have g_b1 : n0 ≤ b1 := Nat.le_trans Z0 (Nat.le_of_eq g1.symm)
 have Z1 : n0 ≤ h1.size := Nat.le_trans Z0 E1.1
 have sz_b1 : h0.size ≤ b1 := Nat.le_trans (Keep.refl h0 []).1 (Nat.le_of_eq g1.symm)
 have K1 : Keep h0 h1 [] := (Keep.refl h0 []).ext E1
 have F1_hash : Fld Z h1 b1 S5' "hash" "I" (.int 0) := D1 (Or.inr ow384) (ty := .int) (by decide)
 have F1_key : Fld Z h1 b1 S5' "key" S9' .null := D1 (Or.inr ow386) (ty := (.object S0')) (by decide)
 have F1_value : Fld Z h1 b1 S5' S21' S9' .null := D1 (Or.inl ow388) (ty := (.object S0')) (by decide)
 have F1_next : Fld Z h1 b1 S5' "next" S31' .null := D1 (Or.inl ow390) (ty := (.object S5')) (by decide)
 refine ja (A := oW p e below T1 (jit m 9 (oR hm) (oi hs) (oR ky) (oR vl) (.val .null) [.null, (.ref vl), (.ref ky), (.int hs), (.ref b1), (.ref b1)])) (fun t k => by
  refine XS.dup X1.here hx rfl (dd 1 rfl) rfl rfl ?_
  refine XS.iloadN X1.here hx rfl (dd 2 rfl) rfl ?_
  refine XS.aloadN X1.here hx rfl (dd 3 rfl) rfl rfl ?_
  refine XS.aloadN X1.here hx rfl (dd 4 rfl) rfl rfl ?_
  refine XS.aload X1.here hx rfl (dd 5 rfl) rfl rfl ?_
  exact k) ?_
 obtain ⟨_, T2, L2, X2, hQ2, st2⟩ := jaF X1 hx hZ hown ow378 ow379 ow381 ow377 (jgG l Z a0 hw [] b1 hs ky vl h1 n0 Z1 A1 g_b1 F1_hash F1_key F1_value F1_next) e1 rfl (by decide) (g := (jit m 9 (oR hm) (oi hs) (oR ky) (oR vl) (.val .null) [.null, (.ref vl), (.ref ky), (.int hs), (.ref b1), (.ref b1)])) rfl (by rw [hml]; rfl) (rest := [(.ref b1)]) rfl (lenOf jN rfl) rfl (W := 1) (Nat.le_of_eq rfl) (dd 6 rfl) (by decide)
 obtain ⟨rfl, N2q, K2q, p2_0, p2_1, p2_2, p2_3⟩ := hQ2
 have N2 := Fr.app N0 N2q
 have Z2 : n0 ≤ T2.heap.size := Nat.le_trans Z1 K2q.1
 have K2 : Keep h0 T2.heap [] := K1.trans K2q (allS (Or.inr sz_b1) all0)
 refine ja st2 ?_
 refine jE X2 hx Bd hPf (by decide) (by decide) rfl rfl rfl (dd 7 rfl) ?_
 exact ⟨b1, rfl, N2, K2, sz_b1, (A1.keep K2q), p2_0, p2_1, p2_2, p2_3⟩
abbrev jlS (m : MethodId) (pc : Nat) (a0 a1 : Slot) (S : List Value) : JFrame := mkF m pc #[a0, a1] S
theorem oD69_52j : oDec jdk_69_method_52_code [(0, .return_, 1)] := by decide +kernel
theorem jas (m : MethodId) (x0 : Addr) (x1 : Int32) : entryFrame m #[(.ref x0), (.int x1)] 2 = mkF m 0 #[(oR x0), (oi x1)] [] := by first | (simp [entryFrame, mkF, argsToLocals, Value.category]; done) | rfl
def jiv (Z : State) (hm : Addr)  (h0 : Heap) (n0 : Nat) (v : Option Value) (h : Heap) (L : List Loc) : Prop := v = none ∧ Fr n0 L ∧ h = h0
theorem jdD (l : Launch) (Z : State) (a0 : Array Value) (hw : oH a0 Z) (ws : List Jvm.Cond) (hm : Addr)  (h0 : Heap) (n0 : Nat) (Z0 : n0 ≤ h0.size) :
  ji l Z (⟨S1', "afterNodeInsertion", "(Z)V"⟩ : MethodName) jdk_69_method_52_code 2 none ws ({ frames := 0, cells := 0, slots := 0, locals := 0 } : Room) #[(.ref hm), (.int 1)] h0 (jiv Z hm h0 n0) := by
 refine jb (plainFor_of_name jp) (fun m => jas m hm (1 : Int32)) ?_
 intro p e s m below meth c s₁ Bd hx hby hml hown hZ X0 e0 Pf hPf
 have N0 := Fr.nil n0
 have dd := oD69_52j.hb hby
 refine jaa X0 hx Bd hPf (by decide) (by decide) (dd 0 rfl) ?_
 rw [e0]
 exact ⟨rfl, N0, rfl⟩
theorem jep {c : Int32} (h : jaL c) : ¬ ((15 : Int32) &&& c) < 0 ∧ ((15 : Int32) &&& c) < 16 := by rcases h with rfl | rfl | rfl | rfl <;> decide
theorem jiw {c : Int32} (h : jaL c) : ((15 : Int32) &&& c).toNatClampNeg < 16 := by rcases h with rfl | rfl | rfl | rfl <;> decide
theorem jld {c : Int32} (h : jaL c) : ([.null, .null, .null, .null, .null, .null, .null, .null, .null, .null, .null, .null, .null, .null, .null, .null] : List Value).getD ((15 : Int32) &&& c).toNatClampNeg .null = .null := by rcases h with rfl | rfl | rfl | rfl <;> rfl
abbrev jat (m : MethodId) (pc : Nat) (a0 a1 a2 a3 a4 a5 a6 a7 a8 a9 a10 a11 a12 : Slot) (S : List Value) : JFrame := mkF m pc #[a0, a1, a2, a3, a4, a5, a6, a7, a8, a9, a10, a11, a12] S
theorem oD69_16j : oDec jdk_69_method_16_code [(0, .aload_n 0, 1), (1, .getfield 105, 3), (4, .dup, 1), (5, .astore 6, 2), (7, .ifnull 12, 3), (10, .aload 6, 2), (12, .arraylength, 1), (13, .dup, 1), (14, .istore 8, 2), (16, .ifCond .ne 13, 3), (19, .aload_n 0, 1), (20, .invokevirtual 117, 3), (23, .dup, 1), (24, .astore 6, 2), (26, .arraylength, 1), (27, .istore 8, 2), (29, .aload 6, 2), (31, .iload 8, 2), (33, .iconst 1, 1), (34, .isub, 1), (35, .iload_n 1, 1), (36, .iand, 1), (37, .dup, 1), (38, .istore 9, 2), (40, .aaload, 1), (41, .dup, 1), (42, .astore 7, 2), (44, .ifnonnull 19, 3), (47, .aload 6, 2), (49, .iload 9, 2), (51, .aload_n 0, 1), (52, .iload_n 1, 1), (53, .aload_n 2, 1), (54, .aload_n 3, 1), (55, .aconst_null, 1), (56, .invokevirtual 186, 3), (59, .aastore, 1), (60, .goto 199, 3), (63, .aload 7, 2), (65, .getfield 168, 3), (68, .iload_n 1, 1), (69, .if_icmp .ne 35, 3), (72, .aload 7, 2), (74, .getfield 170, 3), (77, .dup, 1), (78, .astore 11, 2), (80, .aload_n 2, 1), (81, .if_acmp .eq 16, 3), (84, .aload_n 2, 1), (85, .ifnull 19, 3), (88, .aload_n 2, 1), (89, .aload 11, 2), (91, .invokevirtual 173, 3), (94, .ifCond .eq 10, 3), (97, .aload 7, 2), (99, .astore 10, 2), (101, .goto 121, 3), (104, .aload 7, 2), (106, .instanceof 180, 3), (109, .ifCond .eq 22, 3), (112, .aload 7, 2), (114, .checkcast 180, 3), (117, .aload_n 0, 1), (118, .aload 6, 2), (120, .iload_n 1, 1), (121, .aload_n 2, 1), (122, .aload_n 3, 1), (123, .invokevirtual 190, 3), (126, .astore 10, 2), (128, .goto 94, 3), (131, .iconst 0, 1), (132, .istore 12, 2), (134, .aload 7, 2), (136, .getfield 177, 3), (139, .dup, 1), (140, .astore 10, 2), (142, .ifnonnull 33, 3), (145, .aload 7, 2), (147, .aload_n 0, 1), (148, .iload_n 1, 1), (149, .aload_n 2, 1), (150, .aload_n 3, 1), (151, .aconst_null, 1), (152, .invokevirtual 186, 3), (155, .putfield 177, 3), (158, .iload 12, 2), (160, .bipush 7, 2), (162, .if_icmp .lt 60, 3), (165, .aload_n 0, 1), (166, .aload 6, 2), (168, .iload_n 1, 1), (169, .invokevirtual 194, 3), (172, .goto 50, 3), (175, .aload 10, 2), (177, .getfield 168, 3), (180, .iload_n 1, 1), (181, .if_icmp .ne 31, 3), (184, .aload 10, 2), (186, .getfield 170, 3), (189, .dup, 1), (190, .astore 11, 2), (192, .aload_n 2, 1), (193, .if_acmp .eq 29, 3), (196, .aload_n 2, 1), (197, .ifnull 15, 3), (200, .aload_n 2, 1), (201, .aload 11, 2), (203, .invokevirtual 173, 3), (206, .ifCond .eq 6, 3), (209, .goto 13, 3), (212, .aload 10, 2), (214, .astore 7, 2), (216, .iinc 12 1, 3), (219, .goto (-85), 3), (222, .aload 10, 2), (224, .ifnull 35, 3), (227, .aload 10, 2), (229, .getfield 162, 3), (232, .astore 12, 2), (234, .iload 4, 2), (236, .ifCond .eq 8, 3), (239, .aload 12, 2), (241, .ifnonnull 9, 3), (244, .aload 10, 2), (246, .aload_n 3, 1), (247, .putfield 162, 3), (250, .aload_n 0, 1), (251, .aload 10, 2), (253, .invokevirtual 198, 3), (256, .aload 12, 2), (258, .areturn, 1), (259, .aload_n 0, 1), (260, .dup, 1), (261, .getfield 202, 3), (264, .iconst 1, 1), (265, .iadd, 1), (266, .putfield 202, 3), (269, .aload_n 0, 1), (270, .dup, 1), (271, .getfield 156, 3), (274, .iconst 1, 1), (275, .iadd, 1), (276, .dup_x1, 1), (277, .putfield 156, 3), (280, .aload_n 0, 1), (281, .getfield 88, 3), (284, .if_icmp .le 8, 3), (287, .aload_n 0, 1), (288, .invokevirtual 117, 3), (291, .pop, 1), (292, .aload_n 0, 1), (293, .iload 5, 2), (295, .invokevirtual 205, 3), (298, .aconst_null, 1), (299, .areturn, 1)] := by decide +kernel
theorem jaH : parseMethodDescriptor "()[Ljava/util/HashMap$Node;" = some ⟨[], some (.array (.object "java/util/HashMap$Node"))⟩ := by decide +kernel
theorem jk : parseMethodDescriptor "(ILjava/lang/Object;Ljava/lang/Object;Ljava/util/HashMap$Node;)Ljava/util/HashMap$Node;" = some ⟨[.int, (.object "java/lang/Object"), (.object "java/lang/Object"), (.object "java/util/HashMap$Node")], some (.object "java/util/HashMap$Node")⟩ := by decide +kernel
theorem jfI {a0 : Array Value} {Z : State} (hw : oH a0 Z) : jc Z S1' S22' S16' ≠ jc Z S1' S12' "I" := jg (C := S1') (Or.inl (ow hw 361 rfl)) (Or.inl (ow hw 392 rfl)) (by decide) rfl rfl
theorem jfJ {a0 : Array Value} {Z : State} (hw : oH a0 Z) : jc Z S1' S8' "I" ≠ jc Z S1' S12' "I" := jg (C := S1') (Or.inl (ow hw 318 rfl)) (Or.inl (ow hw 392 rfl)) (by decide) rfl rfl
theorem jfK {a0 : Array Value} {Z : State} (hw : oH a0 Z) : jc Z S1' S23' "I" ≠ jc Z S1' S12' "I" := jg (C := S1') (Or.inl (ow hw 368 rfl)) (Or.inl (ow hw 392 rfl)) (by decide) rfl rfl
theorem jfL {a0 : Array Value} {Z : State} (hw : oH a0 Z) : jc Z S1' S22' S16' ≠ jc Z S1' S8' "I" := jg (C := S1') (Or.inl (ow hw 361 rfl)) (Or.inl (ow hw 318 rfl)) (by decide) rfl rfl
theorem jfM {a0 : Array Value} {Z : State} (hw : oH a0 Z) : jc Z S1' S23' "I" ≠ jc Z S1' S8' "I" := jg (C := S1') (Or.inl (ow hw 368 rfl)) (Or.inl (ow hw 318 rfl)) (by decide) rfl rfl
theorem jfN {a0 : Array Value} {Z : State} (hw : oH a0 Z) : jc Z S1' S12' "I" ≠ jc Z S1' S8' "I" := jg (C := S1') (Or.inl (ow hw 392 rfl)) (Or.inl (ow hw 318 rfl)) (by decide) rfl rfl
theorem jcN : parseMethodDescriptor "(Z)V" = some ⟨[.boolean], none⟩ := by decide +kernel
theorem jcc (m : MethodId) (x0 : Addr) (x1 : Int32) (x2 : Addr) (x3 : Addr) (x4 : Int32) (x5 : Int32) : entryFrame m #[(.ref x0), (.int x1), (.ref x2), (.ref x3), (.int x4), (.int x5)] 13 = mkF m 0 #[(oR x0), (oi x1), (oR x2), (oR x3), (oi x4), (oi x5), ou, ou, ou, ou, ou, ou, ou] [] := by first | (simp [entryFrame, mkF, argsToLocals, Value.category]; done) | rfl
def jix (Z : State) (hm : Addr) (cc : Int32) (ky : Addr) (vl : Addr)  (h0 : Heap) (n0 : Nat) (v : Option Value) (h : Heap) (L : List Loc) : Prop := ∃ (tb : Addr) (kt : ClassId) (nd : Addr), v = some .null ∧ Fr n0 L ∧ Keep h0 h [hm] ∧ h0.size ≤ tb ∧ h0.size ≤ nd ∧ Exa Z h tb S16' ∧ Ovr Z kt S5' ∧ Arv Z h tb kt (.object S5') (16 : Int32) (([.null, .null, .null, .null, .null, .null, .null, .null, .null, .null, .null, .null, .null, .null, .null, .null] : List Value).set ((15 : Int32) &&& cc).toNatClampNeg (.ref nd)) .null ∧ Fld Z h hm S1' S22' S16' (.ref tb) ∧ Fld Z h hm S1' S8' "I" (.int 1) ∧ Fld Z h hm S1' S23' "I" (.int 12) ∧ Fld Z h hm S1' S12' "I" (.int 1) ∧ Exa Z h nd S5' ∧ Fld Z h nd S5' "hash" "I" (.int cc) ∧ Fld Z h nd S5' "key" S9' (.ref ky) ∧ Fld Z h nd S5' S21' S9' (.ref vl) ∧ Fld Z h nd S5' "next" S31' .null
theorem jgH (l : Launch) (Z : State) (a0 : Array Value) (hw : oH a0 Z) (ws : List Jvm.Cond) (hm : Addr) (cc : Int32) (ky : Addr) (vl : Addr)  (h0 : Heap) (n0 : Nat) (Z0 : n0 ≤ h0.size) (Em0 : Exa Z h0 hm S1') (g_hm : n0 ≤ hm) (Ft0 : Fld Z h0 hm S1' S22' S16' .null) (Fs0 : Fld Z h0 hm S1' S8' "I" (.int 0)) (Fh0 : Fld Z h0 hm S1' S23' "I" (.int 0)) (Fm0 : Fld Z h0 hm S1' S12' "I" (.int 0)) (hcc : jaL cc) :
  ji l Z M2' jdk_69_method_16_code 13 (some (.object S0')) ws ({ frames := 3, cells := 2, slots := 20, locals := 47 } : Room) #[(.ref hm), (.int cc), (.ref ky), (.ref vl), (.int 1), (.int 1)] h0 (jix Z hm cc ky vl h0 n0) := by
 refine jb (plainFor_of_name jp) (fun m => jcc m hm cc ky vl (1 : Int32) (1 : Int32)) ?_
 intro p e s m below meth c s₁ Bd hx hby hml hown hZ X0 e0 Pf hPf
 have N0 := Fr.nil n0
 have dd := oD69_16j.hb hby
 have ow119 := ow hw 119 rfl
 have ow120 := ow hw 120 rfl
 have ow317 := ow hw 317 rfl
 have ow318 := ow hw 318 rfl
 have ow360 := ow hw 360 rfl
 have ow362 := ow hw 362 rfl
 have ow363 := ow hw 363 rfl
 have ow364 := ow hw 364 rfl
 have ow365 := ow hw 365 rfl
 have ow366 := ow hw 366 rfl
 have ow367 := ow hw 367 rfl
 have ow371 := ow hw 371 rfl
 have ow372 := ow hw 372 rfl
 have ow373 := ow hw 373 rfl
 have ow374 := ow hw 374 rfl
 have ow375 := ow hw 375 rfl
 have ow391 := ow hw 391 rfl
 have ow392 := ow hw 392 rfl
 have ow393 := ow hw 393 rfl
 have ow394 := ow hw 394 rfl
 have ow395 := ow hw 395 rfl
 have ow396 := ow hw 396 rfl
 have ow397 := ow hw 397 rfl
 refine ja (A := oW p e below s₁ (jat m 1 (oR hm) (oi cc) (oR ky) (oR vl) (oi 1) (oi 1) ou ou ou ou ou ou ou [(.ref hm)])) (fun t k => by
  refine XS.aloadN X0.here hx rfl (dd 0 rfl) rfl rfl ?_
  exact k) ?_
 obtain ⟨T1, X1, e1, st1⟩ := getF X0 hx hZ hown (host := "") (Or.inl ow360) Via.refl e0 Ft0 (g := (jat m 1 (oR hm) (oi cc) (oR ky) (oR vl) (oi 1) (oi 1) ou ou ou ou ou ou ou [(.ref hm)])) rfl rfl (dd 1 rfl)
 refine ja st1 ?_
 refine ja (A := oW p e below T1 (jat m 20 (oR hm) (oi cc) (oR ky) (oR vl) (oi 1) (oi 1) (.val .null) ou ou ou ou ou ou [(.ref hm)])) (fun t k => by
  refine XS.dup X1.here hx rfl (dd 2 rfl) rfl rfl ?_
  refine XS.astore X1.here hx rfl (dd 3 rfl) rfl rfl (l' := #[(oR hm), (oi cc), (oR ky), (oR vl), (oi 1), (oi 1), (.val .null), ou, ou, ou, ou, ou, ou]) rfl ?_
  refine XS.ifnullYes X1.here hx rfl (pc0 := 7) (pc' := 19) rfl (dd 4 rfl) rfl (by decide) (by decide) ?_
  refine XS.aloadN X1.here hx rfl (dd 10 rfl) rfl rfl ?_
  exact k) ?_
 obtain ⟨_, T2, L2, X2, hQ2, st2⟩ := jax X1 hx hZ hown ow362 ow363 ow365 ow364 ow366 ow120 (jgF l Z a0 hw [] hm h0 n0 Z0 Em0 g_hm Ft0 Fs0 Fh0 Fm0) e1 (notFace_of_selects (args := #[]) (mvT hZ ow365)) Em0 (by decide) (g := (jat m 20 (oR hm) (oi cc) (oR ky) (oR vl) (oi 1) (oi 1) (.val .null) ou ou ou ou ou ou [(.ref hm)])) rfl (by rw [hml]; rfl) (rest := []) rfl (lenOf jaH rfl) rfl (W := 0) (Nat.le_of_eq rfl) (dd 11 rfl) (by decide)
 obtain ⟨tb, kt, rfl, N2q, K2q, s_tb, p2_0, p2_1, p2_2, p2_3, p2_4, p2_5, p2_6⟩ := hQ2
 have N2 := Fr.app N0 N2q
 have g_tb : n0 ≤ tb := Nat.le_trans Z0 s_tb
 have sz_tb : h0.size ≤ tb := Nat.le_trans (Keep.refl h0 [hm]).1 s_tb
 have ne_hm_tb : hm ≠ tb := Nat.ne_of_lt (Nat.lt_of_lt_of_le Em0.lt s_tb)
 have Z2 : n0 ≤ T2.heap.size := Nat.le_trans Z0 K2q.1
 have K2 : Keep h0 T2.heap [hm] := (Keep.refl h0 [hm]).trans K2q (allS (Or.inl (List.mem_of_getElem? (i := 0) rfl)) all0)
 refine ja st2 ?_
 refine ja (A := oW p e below T2 (jat m 56 (oR hm) (oi cc) (oR ky) (oR vl) (oi 1) (oi 1) (oR tb) (.val .null) (oi 16) (oi ((15 : Int32) &&& cc)) ou ou ou [.null, (.ref vl), (.ref ky), (.int cc), (.ref hm), (.int ((15 : Int32) &&& cc)), (.ref tb)])) (fun t k => by
  refine XS.dup X2.here hx rfl (dd 12 rfl) rfl rfl ?_
  refine XS.astore X2.here hx rfl (dd 13 rfl) rfl rfl (l' := #[(oR hm), (oi cc), (oR ky), (oR vl), (oi 1), (oi 1), (oR tb), ou, ou, ou, ou, ou, ou]) rfl ?_
  refine jM X2 hx hZ rfl p2_2 (g := (jat m 26 (oR hm) (oi cc) (oR ky) (oR vl) (oi 1) (oi 1) (oR tb) ou ou ou ou ou ou [(.ref tb)])) rfl rfl (dd 14 rfl) _ ?_
  refine XS.istore X2.here hx rfl (dd 15 rfl) rfl (l' := #[(oR hm), (oi cc), (oR ky), (oR vl), (oi 1), (oi 1), (oR tb), ou, (oi 16), ou, ou, ou, ou]) rfl ?_
  refine XS.aload X2.here hx rfl (dd 16 rfl) rfl rfl ?_
  show oW p e below T2 (jat m 31 (oR hm) (oi cc) (oR ky) (oR vl) (oi 1) (oi 1) (oR tb) ou (oi 16) ou ou ou ou [(.ref tb)]) _
  refine XS.iload X2.here hx rfl (dd 17 rfl) rfl ?_
  refine XS.iconst X2.here hx rfl (dd 18 rfl) ?_
  refine XS.isub X2.here hx rfl (dd 19 rfl) rfl ?_
  refine XS.iloadN X2.here hx rfl (dd 20 rfl) rfl ?_
  refine XS.iand X2.here hx rfl (dd 21 rfl) rfl ?_
  show oW p e below T2 (jat m 37 (oR hm) (oi cc) (oR ky) (oR vl) (oi 1) (oi 1) (oR tb) ou (oi 16) ou ou ou ou [(.int ((15 : Int32) &&& cc)), (.ref tb)]) _
  refine XS.dup X2.here hx rfl (dd 22 rfl) rfl rfl ?_
  refine XS.istore X2.here hx rfl (dd 23 rfl) rfl (l' := #[(oR hm), (oi cc), (oR ky), (oR vl), (oi 1), (oi 1), (oR tb), ou, (oi 16), (oi ((15 : Int32) &&& cc)), ou, ou, ou]) rfl ?_
  refine jbA X2 hx hZ rfl p2_2 (jep hcc) (v := .null) (jld hcc) (g := (jat m 40 (oR hm) (oi cc) (oR ky) (oR vl) (oi 1) (oi 1) (oR tb) ou (oi 16) (oi ((15 : Int32) &&& cc)) ou ou ou [(.int ((15 : Int32) &&& cc)), (.ref tb)])) rfl rfl (dd 24 rfl) _ ?_
  refine XS.dup X2.here hx rfl (dd 25 rfl) rfl rfl ?_
  refine XS.astore X2.here hx rfl (dd 26 rfl) rfl rfl (l' := #[(oR hm), (oi cc), (oR ky), (oR vl), (oi 1), (oi 1), (oR tb), (.val .null), (oi 16), (oi ((15 : Int32) &&& cc)), ou, ou, ou]) rfl ?_
  show oW p e below T2 (jat m 44 (oR hm) (oi cc) (oR ky) (oR vl) (oi 1) (oi 1) (oR tb) (.val .null) (oi 16) (oi ((15 : Int32) &&& cc)) ou ou ou [.null]) _
  refine XS.ifnonnullNo X2.here hx rfl (dd 27 rfl) rfl ?_
  refine XS.aload X2.here hx rfl (dd 28 rfl) rfl rfl ?_
  refine XS.iload X2.here hx rfl (dd 29 rfl) rfl ?_
  refine XS.aloadN X2.here hx rfl (dd 30 rfl) rfl rfl ?_
  refine XS.iloadN X2.here hx rfl (dd 31 rfl) rfl ?_
  show oW p e below T2 (jat m 53 (oR hm) (oi cc) (oR ky) (oR vl) (oi 1) (oi 1) (oR tb) (.val .null) (oi 16) (oi ((15 : Int32) &&& cc)) ou ou ou [(.int cc), (.ref hm), (.int ((15 : Int32) &&& cc)), (.ref tb)]) _
  refine XS.aloadN X2.here hx rfl (dd 32 rfl) rfl rfl ?_
  refine XS.aloadN X2.here hx rfl (dd 33 rfl) rfl rfl ?_
  refine XS.aconstNull X2.here hx rfl (dd 34 rfl) ?_
  exact k) ?_
 obtain ⟨_, T3, L3, X3, hQ3, st3⟩ := jax X2 hx hZ hown ow371 ow372 ow374 ow373 ow375 ow120 (jdC l Z a0 hw [] hm cc ky vl T2.heap n0 Z2 ) rfl (notFace_of_selects (args := #[]) (mvT hZ ow374)) (Em0.keep K2q) (by decide) (g := (jat m 56 (oR hm) (oi cc) (oR ky) (oR vl) (oi 1) (oi 1) (oR tb) (.val .null) (oi 16) (oi ((15 : Int32) &&& cc)) ou ou ou [.null, (.ref vl), (.ref ky), (.int cc), (.ref hm), (.int ((15 : Int32) &&& cc)), (.ref tb)])) rfl (by rw [hml]; rfl) (rest := [(.int ((15 : Int32) &&& cc)), (.ref tb)]) rfl (lenOf jk rfl) rfl (W := 2) (Nat.le_of_eq rfl) (dd 35 rfl) (by decide)
 obtain ⟨nd, rfl, N3q, K3q, s_nd, p3_0, p3_1, p3_2, p3_3, p3_4⟩ := hQ3
 have N3 := Fr.app N2 N3q
 have g_nd : n0 ≤ nd := Nat.le_trans Z2 s_nd
 have sz_nd : h0.size ≤ nd := Nat.le_trans K2.1 s_nd
 have ne_hm_nd : hm ≠ nd := Nat.ne_of_lt (Nat.lt_of_lt_of_le (Em0.keep K2q).lt s_nd)
 have ne_tb_nd : tb ≠ nd := Nat.ne_of_lt (Nat.lt_of_lt_of_le p2_0.lt s_nd)
 have f3_2 := p2_2.keep K3q nin0
 have f3_3 := p2_3.keep K3q nin0
 have f3_4 := p2_4.keep K3q nin0
 have f3_5 := p2_5.keep K3q nin0
 have f3_6 := p2_6.keep K3q nin0
 have Z3 : n0 ≤ T3.heap.size := Nat.le_trans Z2 K3q.1
 have K3 : Keep h0 T3.heap [hm] := K2.trans K3q all0
 refine ja st3 ?_
 obtain ⟨cl4, Ar4, q4, S4, N4, H4, G4⟩ := id (f3_2)
 have hi4 : ¬ (((15 : Int32) &&& cc) < 0 ∨ cl4.slots.size ≤ (((15 : Int32) &&& cc)).toNatClampNeg) := inb_of S4 (jep hcc)
 obtain ⟨T5, h5, X5, e5, W5, st5⟩ := stR X3 hx hZ rfl Ar4 (j := ((15 : Int32) &&& cc)) hi4 rfl (Sto.ofV Ar4 q4 p2_1 (Ins.self p3_0)) (g := (jat m 59 (oR hm) (oi cc) (oR ky) (oR vl) (oi 1) (oi 1) (oR tb) (.val .null) (oi 16) (oi ((15 : Int32) &&& cc)) ou ou ou [(.ref nd), (.int ((15 : Int32) &&& cc)), (.ref tb)])) rfl rfl (dd 36 rfl)
 refine ja st5 ?_
 have V5 : Arv Z h5 tb kt (.object S5') (16 : Int32) (([.null, .null, .null, .null, .null, .null, .null, .null, .null, .null, .null, .null, .null, .null, .null, .null] : List Value).set ((15 : Int32) &&& cc).toNatClampNeg (.ref nd)) .null := Arv.set Ar4 q4 S4 N4 H4 G4 rfl W5 ((15 : Int32) &&& cc).toNatClampNeg rfl (jiw hcc)
 have f5_3 := f3_3.other W5 (Or.inl ne_hm_tb)
 have f5_4 := f3_4.other W5 (Or.inl ne_hm_tb)
 have f5_5 := f3_5.other W5 (Or.inl ne_hm_tb)
 have f5_6 := f3_6.other W5 (Or.inl ne_hm_tb)
 have f5_8 := p3_1.other W5 (Or.inl (Ne.symm ne_tb_nd))
 have f5_9 := p3_2.other W5 (Or.inl (Ne.symm ne_tb_nd))
 have f5_10 := p3_3.other W5 (Or.inl (Ne.symm ne_tb_nd))
 have f5_11 := p3_4.other W5 (Or.inl (Ne.symm ne_tb_nd))
 have N5 := Fr.snoc X5 N3 g_tb
 have Z5 : n0 ≤ h5.size := Nat.le_trans Z3 (Keep.of_wr W5).1
 have K5 : Keep h0 h5 [hm] := K3.wr W5 (Or.inr sz_tb)
 refine ja (A := oW p e below T5 (jat m 261 (oR hm) (oi cc) (oR ky) (oR vl) (oi 1) (oi 1) (oR tb) (.val .null) (oi 16) (oi ((15 : Int32) &&& cc)) ou ou ou [(.ref hm), (.ref hm)])) (fun t k => by
  refine XS.goto X5.here hx rfl (pc0 := 60) (pc' := 259) rfl (dd 37 rfl) (by decide) (by decide) ?_
  refine XS.aloadN X5.here hx rfl (dd 131 rfl) rfl rfl ?_
  show oW p e below T5 (jat m 260 (oR hm) (oi cc) (oR ky) (oR vl) (oi 1) (oi 1) (oR tb) (.val .null) (oi 16) (oi ((15 : Int32) &&& cc)) ou ou ou [(.ref hm)]) _
  refine XS.dup X5.here hx rfl (dd 132 rfl) rfl rfl ?_
  exact k) ?_
 obtain ⟨T6, X6, e6, st6⟩ := getF X5 hx hZ hown (host := "") (Or.inl ow391) Via.refl e5 f5_6 (g := (jat m 261 (oR hm) (oi cc) (oR ky) (oR vl) (oi 1) (oi 1) (oR tb) (.val .null) (oi 16) (oi ((15 : Int32) &&& cc)) ou ou ou [(.ref hm), (.ref hm)])) rfl rfl (dd 133 rfl)
 refine ja st6 ?_
 refine ja (A := oW p e below T6 (jat m 266 (oR hm) (oi cc) (oR ky) (oR vl) (oi 1) (oi 1) (oR tb) (.val .null) (oi 16) (oi ((15 : Int32) &&& cc)) ou ou ou [(.int 1), (.ref hm)])) (fun t k => by
  refine XS.iconst X6.here hx rfl (dd 134 rfl) ?_
  refine XS.iadd X6.here hx rfl (dd 135 rfl) rfl ?_
  exact k) ?_
 obtain ⟨T7, h7, X7, e7, W7, st7⟩ := putF X6 hx hZ hown (host := "") (Or.inl ow391) Via.refl e6 f5_6 (((Em0.keep K2q).keep K3q).wr W5) (Or.inl ow392) ow119 (ty := .int) (by decide) rfl rfl (g := (jat m 266 (oR hm) (oi cc) (oR ky) (oR vl) (oi 1) (oi 1) (oR tb) (.val .null) (oi 16) (oi ((15 : Int32) &&& cc)) ou ou ou [(.int 1), (.ref hm)])) rfl rfl (dd 136 rfl)
 refine ja st7 ?_
 have f7_2 := V5.other W7 ((Ne.symm ne_hm_tb))
 have f7_3 := f5_3.other W7 (Or.inr (jfI hw))
 have f7_4 := f5_4.other W7 (Or.inr (jfJ hw))
 have f7_5 := f5_5.other W7 (Or.inr (jfK hw))
 have f7_6 : Fld Z h7 hm S1' S12' "I" (.int 1) := f5_6.same W7
 have f7_8 := f5_8.other W7 (Or.inl (Ne.symm ne_hm_nd))
 have f7_9 := f5_9.other W7 (Or.inl (Ne.symm ne_hm_nd))
 have f7_10 := f5_10.other W7 (Or.inl (Ne.symm ne_hm_nd))
 have f7_11 := f5_11.other W7 (Or.inl (Ne.symm ne_hm_nd))
 have N7 := Fr.snoc X7 N5 g_hm
 have Z7 : n0 ≤ h7.size := Nat.le_trans Z5 (Keep.of_wr W7).1
 have K7 : Keep h0 h7 [hm] := K5.wr W7 (Or.inl (List.mem_of_getElem? (i := 0) rfl))
 refine ja (A := oW p e below T7 (jat m 271 (oR hm) (oi cc) (oR ky) (oR vl) (oi 1) (oi 1) (oR tb) (.val .null) (oi 16) (oi ((15 : Int32) &&& cc)) ou ou ou [(.ref hm), (.ref hm)])) (fun t k => by
  refine XS.aloadN X7.here hx rfl (dd 137 rfl) rfl rfl ?_
  refine XS.dup X7.here hx rfl (dd 138 rfl) rfl rfl ?_
  exact k) ?_
 obtain ⟨T8, X8, e8, st8⟩ := getF X7 hx hZ hown (host := "") (Or.inl ow317) Via.refl e7 f7_4 (g := (jat m 271 (oR hm) (oi cc) (oR ky) (oR vl) (oi 1) (oi 1) (oR tb) (.val .null) (oi 16) (oi ((15 : Int32) &&& cc)) ou ou ou [(.ref hm), (.ref hm)])) rfl rfl (dd 139 rfl)
 refine ja st8 ?_
 refine ja (A := oW p e below T8 (jat m 277 (oR hm) (oi cc) (oR ky) (oR vl) (oi 1) (oi 1) (oR tb) (.val .null) (oi 16) (oi ((15 : Int32) &&& cc)) ou ou ou [(.int 1), (.ref hm), (.int 1)])) (fun t k => by
  refine XS.iconst X8.here hx rfl (dd 140 rfl) ?_
  refine XS.iadd X8.here hx rfl (dd 141 rfl) rfl ?_
  refine XS.dupX1 X8.here hx rfl (dd 142 rfl) rfl rfl rfl ?_
  exact k) ?_
 obtain ⟨T9, h9, X9, e9, W9, st9⟩ := putF X8 hx hZ hown (host := "") (Or.inl ow317) Via.refl e8 f7_4 ((((Em0.keep K2q).keep K3q).wr W5).wr W7) (Or.inl ow318) ow119 (ty := .int) (by decide) rfl rfl (g := (jat m 277 (oR hm) (oi cc) (oR ky) (oR vl) (oi 1) (oi 1) (oR tb) (.val .null) (oi 16) (oi ((15 : Int32) &&& cc)) ou ou ou [(.int 1), (.ref hm), (.int 1)])) rfl rfl (dd 143 rfl)
 refine ja st9 ?_
 have f9_2 := f7_2.other W9 ((Ne.symm ne_hm_tb))
 have f9_3 := f7_3.other W9 (Or.inr (jfL hw))
 have f9_4 : Fld Z h9 hm S1' S8' "I" (.int 1) := f7_4.same W9
 have f9_5 := f7_5.other W9 (Or.inr (jfM hw))
 have f9_6 := f7_6.other W9 (Or.inr (jfN hw))
 have f9_8 := f7_8.other W9 (Or.inl (Ne.symm ne_hm_nd))
 have f9_9 := f7_9.other W9 (Or.inl (Ne.symm ne_hm_nd))
 have f9_10 := f7_10.other W9 (Or.inl (Ne.symm ne_hm_nd))
 have f9_11 := f7_11.other W9 (Or.inl (Ne.symm ne_hm_nd))
 have N9 := Fr.snoc X9 N7 g_hm
 have Z9 : n0 ≤ h9.size := Nat.le_trans Z7 (Keep.of_wr W9).1
 have K9 : Keep h0 h9 [hm] := K7.wr W9 (Or.inl (List.mem_of_getElem? (i := 0) rfl))
 refine ja (A := oW p e below T9 (jat m 281 (oR hm) (oi cc) (oR ky) (oR vl) (oi 1) (oi 1) (oR tb) (.val .null) (oi 16) (oi ((15 : Int32) &&& cc)) ou ou ou [(.ref hm), (.int 1)])) (fun t k => by
  refine XS.aloadN X9.here hx rfl (dd 144 rfl) rfl rfl ?_
  exact k) ?_
 obtain ⟨T10, X10, e10, st10⟩ := getF X9 hx hZ hown (host := "") (Or.inl ow367) Via.refl e9 f9_5 (g := (jat m 281 (oR hm) (oi cc) (oR ky) (oR vl) (oi 1) (oi 1) (oR tb) (.val .null) (oi 16) (oi ((15 : Int32) &&& cc)) ou ou ou [(.ref hm), (.int 1)])) rfl rfl (dd 145 rfl)
 refine ja st10 ?_
 refine ja (A := oW p e below T10 (jat m 295 (oR hm) (oi cc) (oR ky) (oR vl) (oi 1) (oi 1) (oR tb) (.val .null) (oi 16) (oi ((15 : Int32) &&& cc)) ou ou ou [(.int 1), (.ref hm)])) (fun t k => by
  refine XS.icmpYes X10.here hx rfl (pc0 := 284) (pc' := 292) rfl (dd 146 rfl) rfl (flt (by decide : ¬ ((12 : Int32) < (1 : Int32)))).2.2.2 (by decide) (by decide) ?_
  show oW p e below T10 (jat m 292 (oR hm) (oi cc) (oR ky) (oR vl) (oi 1) (oi 1) (oR tb) (.val .null) (oi 16) (oi ((15 : Int32) &&& cc)) ou ou ou []) _
  refine XS.aloadN X10.here hx rfl (dd 150 rfl) rfl rfl ?_
  refine XS.iload X10.here hx rfl (dd 151 rfl) rfl ?_
  exact k) ?_
 obtain ⟨_, T11, L11, X11, hQ11, st11⟩ := jax X10 hx hZ hown ow393 ow394 ow396 ow395 ow397 ow120 (jdD l Z a0 hw [] hm h9 n0 Z9 ) e10 (notFace_of_selects (args := #[]) (mvT hZ ow396)) (((((Em0.keep K2q).keep K3q).wr W5).wr W7).wr W9) (by decide) (g := (jat m 295 (oR hm) (oi cc) (oR ky) (oR vl) (oi 1) (oi 1) (oR tb) (.val .null) (oi 16) (oi ((15 : Int32) &&& cc)) ou ou ou [(.int 1), (.ref hm)])) rfl (by rw [hml]; rfl) (rest := []) rfl (lenOf jcN rfl) rfl (W := 0) (Nat.le_of_eq rfl) (dd 152 rfl) (by decide)
 obtain ⟨rfl, N11q, eh11⟩ := hQ11
 have N11 := Fr.app N9 N11q
 refine ja st11 ?_
 refine ja (A := oW p e below T11 (jat m 299 (oR hm) (oi cc) (oR ky) (oR vl) (oi 1) (oi 1) (oR tb) (.val .null) (oi 16) (oi ((15 : Int32) &&& cc)) ou ou ou [.null])) (fun t k => by
  refine XS.aconstNull X11.here hx rfl (dd 153 rfl) ?_
  exact k) ?_
 refine jE X11 hx Bd hPf (by decide) (by decide) rfl rfl rfl (dd 154 rfl) ?_
 rw [eh11]
 exact ⟨tb, kt, nd, rfl, N11, K9, sz_tb, sz_nd, ((((p2_0.keep K3q).wr W5).wr W7).wr W9), p2_1, f9_2, f9_3, f9_4, f9_5, f9_6, (((p3_0.wr W5).wr W7).wr W9), f9_8, f9_9, f9_10, f9_11⟩
abbrev jay (m : MethodId) (pc : Nat) (a0 a1 a2 a3 a4 a5 a6 a7 a8 a9 a10 a11 a12 : Slot) (S : List Value) : JFrame := mkF m pc #[a0, a1, a2, a3, a4, a5, a6, a7, a8, a9, a10, a11, a12] S
def jiy (Z : State) (hm : Addr) (cc : Int32) (ky : Addr) (vl : Addr)  (tb : Addr) (kt : ClassId) (tvs : List Value) (sz mc : Int32) (h0 : Heap) (n0 : Nat) (v : Option Value) (h : Heap) (L : List Loc) : Prop := ∃ nd : Addr, v = some .null ∧ Fr n0 L ∧ Keep h0 h [hm, tb] ∧ h0.size ≤ nd ∧ Arv Z h tb kt (.object S5') (16 : Int32) (tvs.set ((15 : Int32) &&& cc).toNatClampNeg (.ref nd)) .null ∧ Fld Z h hm S1' S22' S16' (.ref tb) ∧ Fld Z h hm S1' S8' "I" (.int (sz + (1 : Int32))) ∧ Fld Z h hm S1' S23' "I" (.int 12) ∧ Fld Z h hm S1' S12' "I" (.int (mc + (1 : Int32))) ∧ Exa Z h nd S5' ∧ Fld Z h nd S5' "hash" "I" (.int cc) ∧ Fld Z h nd S5' "key" S9' (.ref ky) ∧ Fld Z h nd S5' S21' S9' (.ref vl) ∧ Fld Z h nd S5' "next" S31' .null
theorem jgI (l : Launch) (Z : State) (a0 : Array Value) (hw : oH a0 Z) (ws : List Jvm.Cond) (hm : Addr) (cc : Int32) (ky : Addr) (vl : Addr)  (tb : Addr) (kt : ClassId) (tvs : List Value) (sz mc : Int32) (h0 : Heap) (n0 : Nat) (Z0 : n0 ≤ h0.size) (Em0 : Exa Z h0 hm S1') (g_hm : n0 ≤ hm) (Ft0 : Fld Z h0 hm S1' S22' S16' (.ref tb)) (Fs0 : Fld Z h0 hm S1' S8' "I" (.int sz)) (Fh0 : Fld Z h0 hm S1' S23' "I" (.int 12)) (Fm0 : Fld Z h0 hm S1' S12' "I" (.int mc)) (hcc : jaL cc) (Et0 : Exa Z h0 tb S16') (Ov0 : Ovr Z kt S5') (Vt0 : Arv Z h0 tb kt (.object S5') (16 : Int32) tvs .null) (g_tb : n0 ≤ tb) (hlen : tvs.length = 16) (hnu : tvs.getD ((15 : Int32) &&& cc).toNatClampNeg .null = .null) (hsz : ¬ (12 : Int32) < (sz + (1 : Int32))) :
  ji l Z M2' jdk_69_method_16_code 13 (some (.object S0')) ws ({ frames := 3, cells := 1, slots := 4, locals := 47 } : Room) #[(.ref hm), (.int cc), (.ref ky), (.ref vl), (.int 1), (.int 1)] h0 (jiy Z hm cc ky vl tb kt tvs sz mc h0 n0) := by
 refine jb (plainFor_of_name jp) (fun m => jcc m hm cc ky vl (1 : Int32) (1 : Int32)) ?_
 intro p e s m below meth c s₁ Bd hx hby hml hown hZ X0 e0 Pf hPf
 have N0 := Fr.nil n0
 have dd := oD69_16j.hb hby
 have ow119 := ow hw 119 rfl
 have ow120 := ow hw 120 rfl
 have ow317 := ow hw 317 rfl
 have ow318 := ow hw 318 rfl
 have ow360 := ow hw 360 rfl
 have ow367 := ow hw 367 rfl
 have ow371 := ow hw 371 rfl
 have ow372 := ow hw 372 rfl
 have ow373 := ow hw 373 rfl
 have ow374 := ow hw 374 rfl
 have ow375 := ow hw 375 rfl
 have ow391 := ow hw 391 rfl
 have ow392 := ow hw 392 rfl
 have ow393 := ow hw 393 rfl
 have ow394 := ow hw 394 rfl
 have ow395 := ow hw 395 rfl
 have ow396 := ow hw 396 rfl
 have ow397 := ow hw 397 rfl
 refine ja (A := oW p e below s₁ (jay m 1 (oR hm) (oi cc) (oR ky) (oR vl) (oi 1) (oi 1) ou ou ou ou ou ou ou [(.ref hm)])) (fun t k => by
  refine XS.aloadN X0.here hx rfl (dd 0 rfl) rfl rfl ?_
  exact k) ?_
 obtain ⟨T1, X1, e1, st1⟩ := getF X0 hx hZ hown (host := "") (Or.inl ow360) Via.refl e0 Ft0 (g := (jay m 1 (oR hm) (oi cc) (oR ky) (oR vl) (oi 1) (oi 1) ou ou ou ou ou ou ou [(.ref hm)])) rfl rfl (dd 1 rfl)
 refine ja st1 ?_
 refine ja (A := oW p e below T1 (jay m 56 (oR hm) (oi cc) (oR ky) (oR vl) (oi 1) (oi 1) (oR tb) (.val .null) (oi 16) (oi ((15 : Int32) &&& cc)) ou ou ou [.null, (.ref vl), (.ref ky), (.int cc), (.ref hm), (.int ((15 : Int32) &&& cc)), (.ref tb)])) (fun t k => by
  refine XS.dup X1.here hx rfl (dd 2 rfl) rfl rfl ?_
  refine XS.astore X1.here hx rfl (dd 3 rfl) rfl rfl (l' := #[(oR hm), (oi cc), (oR ky), (oR vl), (oi 1), (oi 1), (oR tb), ou, ou, ou, ou, ou, ou]) rfl ?_
  refine XS.ifnullNo X1.here hx rfl (dd 4 rfl) rfl ?_
  refine XS.aload X1.here hx rfl (dd 5 rfl) rfl rfl ?_
  show oW p e below T1 (jay m 12 (oR hm) (oi cc) (oR ky) (oR vl) (oi 1) (oi 1) (oR tb) ou ou ou ou ou ou [(.ref tb)]) _
  refine jM X1 hx hZ e1 Vt0 (g := (jay m 12 (oR hm) (oi cc) (oR ky) (oR vl) (oi 1) (oi 1) (oR tb) ou ou ou ou ou ou [(.ref tb)])) rfl rfl (dd 6 rfl) _ ?_
  refine XS.dup X1.here hx rfl (dd 7 rfl) rfl rfl ?_
  refine XS.istore X1.here hx rfl (dd 8 rfl) rfl (l' := #[(oR hm), (oi cc), (oR ky), (oR vl), (oi 1), (oi 1), (oR tb), ou, (oi 16), ou, ou, ou, ou]) rfl ?_
  refine XS.ifYes X1.here hx rfl (pc0 := 16) (pc' := 29) rfl (dd 9 rfl) rfl ((if0 _ _).trans (feq (by decide : ¬ ((16 : Int32) = (0 : Int32)))).2) (by decide) (by decide) ?_
  refine XS.aload X1.here hx rfl (dd 16 rfl) rfl rfl ?_
  show oW p e below T1 (jay m 31 (oR hm) (oi cc) (oR ky) (oR vl) (oi 1) (oi 1) (oR tb) ou (oi 16) ou ou ou ou [(.ref tb)]) _
  refine XS.iload X1.here hx rfl (dd 17 rfl) rfl ?_
  refine XS.iconst X1.here hx rfl (dd 18 rfl) ?_
  refine XS.isub X1.here hx rfl (dd 19 rfl) rfl ?_
  refine XS.iloadN X1.here hx rfl (dd 20 rfl) rfl ?_
  refine XS.iand X1.here hx rfl (dd 21 rfl) rfl ?_
  show oW p e below T1 (jay m 37 (oR hm) (oi cc) (oR ky) (oR vl) (oi 1) (oi 1) (oR tb) ou (oi 16) ou ou ou ou [(.int ((15 : Int32) &&& cc)), (.ref tb)]) _
  refine XS.dup X1.here hx rfl (dd 22 rfl) rfl rfl ?_
  refine XS.istore X1.here hx rfl (dd 23 rfl) rfl (l' := #[(oR hm), (oi cc), (oR ky), (oR vl), (oi 1), (oi 1), (oR tb), ou, (oi 16), (oi ((15 : Int32) &&& cc)), ou, ou, ou]) rfl ?_
  refine jbA X1 hx hZ e1 Vt0 (jep hcc) (v := .null) hnu (g := (jay m 40 (oR hm) (oi cc) (oR ky) (oR vl) (oi 1) (oi 1) (oR tb) ou (oi 16) (oi ((15 : Int32) &&& cc)) ou ou ou [(.int ((15 : Int32) &&& cc)), (.ref tb)])) rfl rfl (dd 24 rfl) _ ?_
  refine XS.dup X1.here hx rfl (dd 25 rfl) rfl rfl ?_
  refine XS.astore X1.here hx rfl (dd 26 rfl) rfl rfl (l' := #[(oR hm), (oi cc), (oR ky), (oR vl), (oi 1), (oi 1), (oR tb), (.val .null), (oi 16), (oi ((15 : Int32) &&& cc)), ou, ou, ou]) rfl ?_
  show oW p e below T1 (jay m 44 (oR hm) (oi cc) (oR ky) (oR vl) (oi 1) (oi 1) (oR tb) (.val .null) (oi 16) (oi ((15 : Int32) &&& cc)) ou ou ou [.null]) _
  refine XS.ifnonnullNo X1.here hx rfl (dd 27 rfl) rfl ?_
  refine XS.aload X1.here hx rfl (dd 28 rfl) rfl rfl ?_
  refine XS.iload X1.here hx rfl (dd 29 rfl) rfl ?_
  refine XS.aloadN X1.here hx rfl (dd 30 rfl) rfl rfl ?_
  refine XS.iloadN X1.here hx rfl (dd 31 rfl) rfl ?_
  show oW p e below T1 (jay m 53 (oR hm) (oi cc) (oR ky) (oR vl) (oi 1) (oi 1) (oR tb) (.val .null) (oi 16) (oi ((15 : Int32) &&& cc)) ou ou ou [(.int cc), (.ref hm), (.int ((15 : Int32) &&& cc)), (.ref tb)]) _
  refine XS.aloadN X1.here hx rfl (dd 32 rfl) rfl rfl ?_
  refine XS.aloadN X1.here hx rfl (dd 33 rfl) rfl rfl ?_
  refine XS.aconstNull X1.here hx rfl (dd 34 rfl) ?_
  exact k) ?_
 obtain ⟨_, T2, L2, X2, hQ2, st2⟩ := jax X1 hx hZ hown ow371 ow372 ow374 ow373 ow375 ow120 (jdC l Z a0 hw [] hm cc ky vl h0 n0 Z0 ) e1 (notFace_of_selects (args := #[]) (mvT hZ ow374)) Em0 (by decide) (g := (jay m 56 (oR hm) (oi cc) (oR ky) (oR vl) (oi 1) (oi 1) (oR tb) (.val .null) (oi 16) (oi ((15 : Int32) &&& cc)) ou ou ou [.null, (.ref vl), (.ref ky), (.int cc), (.ref hm), (.int ((15 : Int32) &&& cc)), (.ref tb)])) rfl (by rw [hml]; rfl) (rest := [(.int ((15 : Int32) &&& cc)), (.ref tb)]) rfl (lenOf jk rfl) rfl (W := 2) (Nat.le_of_eq rfl) (dd 35 rfl) (by decide)
 obtain ⟨nd, rfl, N2q, K2q, s_nd, p2_0, p2_1, p2_2, p2_3, p2_4⟩ := hQ2
 have N2 := Fr.app N0 N2q
 have g_nd : n0 ≤ nd := Nat.le_trans Z0 s_nd
 have sz_nd : h0.size ≤ nd := Nat.le_trans (Keep.refl h0 [hm, tb]).1 s_nd
 have ne_hm_nd : hm ≠ nd := Nat.ne_of_lt (Nat.lt_of_lt_of_le Em0.lt s_nd)
 have ne_tb_nd : tb ≠ nd := Nat.ne_of_lt (Nat.lt_of_lt_of_le Et0.lt s_nd)
 have f2_1 := Ft0.keep K2q nin0
 have f2_2 := Fs0.keep K2q nin0
 have f2_3 := Fh0.keep K2q nin0
 have f2_4 := Fm0.keep K2q nin0
 have f2_6 := Vt0.keep K2q nin0
 have Z2 : n0 ≤ T2.heap.size := Nat.le_trans Z0 K2q.1
 have K2 : Keep h0 T2.heap [hm, tb] := (Keep.refl h0 [hm, tb]).trans K2q all0
 refine ja st2 ?_
 obtain ⟨cl3, Ar3, q3, S3, N3, H3, G3⟩ := id (f2_6)
 have hi3 : ¬ (((15 : Int32) &&& cc) < 0 ∨ cl3.slots.size ≤ (((15 : Int32) &&& cc)).toNatClampNeg) := inb_of S3 (jep hcc)
 obtain ⟨T4, h4, X4, e4, W4, st4⟩ := stR X2 hx hZ rfl Ar3 (j := ((15 : Int32) &&& cc)) hi3 rfl (Sto.ofV Ar3 q3 Ov0 (Ins.self p2_0)) (g := (jay m 59 (oR hm) (oi cc) (oR ky) (oR vl) (oi 1) (oi 1) (oR tb) (.val .null) (oi 16) (oi ((15 : Int32) &&& cc)) ou ou ou [(.ref nd), (.int ((15 : Int32) &&& cc)), (.ref tb)])) rfl rfl (dd 36 rfl)
 refine ja st4 ?_
 have V4 : Arv Z h4 tb kt (.object S5') (16 : Int32) (tvs.set ((15 : Int32) &&& cc).toNatClampNeg (.ref nd)) .null := Arv.set Ar3 q3 S3 N3 H3 G3 rfl W4 ((15 : Int32) &&& cc).toNatClampNeg rfl (by rw [hlen]; exact jiw hcc)
 have f4_1 := f2_1.other W4 (Or.inl (Exa.ne (Em0.keep K2q) (Et0.keep K2q) (by decide)))
 have f4_2 := f2_2.other W4 (Or.inl (Exa.ne (Em0.keep K2q) (Et0.keep K2q) (by decide)))
 have f4_3 := f2_3.other W4 (Or.inl (Exa.ne (Em0.keep K2q) (Et0.keep K2q) (by decide)))
 have f4_4 := f2_4.other W4 (Or.inl (Exa.ne (Em0.keep K2q) (Et0.keep K2q) (by decide)))
 have f4_8 := p2_1.other W4 (Or.inl (Ne.symm ne_tb_nd))
 have f4_9 := p2_2.other W4 (Or.inl (Ne.symm ne_tb_nd))
 have f4_10 := p2_3.other W4 (Or.inl (Ne.symm ne_tb_nd))
 have f4_11 := p2_4.other W4 (Or.inl (Ne.symm ne_tb_nd))
 have N4 := Fr.snoc X4 N2 g_tb
 have Z4 : n0 ≤ h4.size := Nat.le_trans Z2 (Keep.of_wr W4).1
 have K4 : Keep h0 h4 [hm, tb] := K2.wr W4 (Or.inl (List.mem_of_getElem? (i := 1) rfl))
 refine ja (A := oW p e below T4 (jay m 261 (oR hm) (oi cc) (oR ky) (oR vl) (oi 1) (oi 1) (oR tb) (.val .null) (oi 16) (oi ((15 : Int32) &&& cc)) ou ou ou [(.ref hm), (.ref hm)])) (fun t k => by
  refine XS.goto X4.here hx rfl (pc0 := 60) (pc' := 259) rfl (dd 37 rfl) (by decide) (by decide) ?_
  refine XS.aloadN X4.here hx rfl (dd 131 rfl) rfl rfl ?_
  show oW p e below T4 (jay m 260 (oR hm) (oi cc) (oR ky) (oR vl) (oi 1) (oi 1) (oR tb) (.val .null) (oi 16) (oi ((15 : Int32) &&& cc)) ou ou ou [(.ref hm)]) _
  refine XS.dup X4.here hx rfl (dd 132 rfl) rfl rfl ?_
  exact k) ?_
 obtain ⟨T5, X5, e5, st5⟩ := getF X4 hx hZ hown (host := "") (Or.inl ow391) Via.refl e4 f4_4 (g := (jay m 261 (oR hm) (oi cc) (oR ky) (oR vl) (oi 1) (oi 1) (oR tb) (.val .null) (oi 16) (oi ((15 : Int32) &&& cc)) ou ou ou [(.ref hm), (.ref hm)])) rfl rfl (dd 133 rfl)
 refine ja st5 ?_
 refine ja (A := oW p e below T5 (jay m 266 (oR hm) (oi cc) (oR ky) (oR vl) (oi 1) (oi 1) (oR tb) (.val .null) (oi 16) (oi ((15 : Int32) &&& cc)) ou ou ou [(.int (mc + (1 : Int32))), (.ref hm)])) (fun t k => by
  refine XS.iconst X5.here hx rfl (dd 134 rfl) ?_
  refine XS.iadd X5.here hx rfl (dd 135 rfl) rfl ?_
  exact k) ?_
 obtain ⟨T6, h6, X6, e6, W6, st6⟩ := putF X5 hx hZ hown (host := "") (Or.inl ow391) Via.refl e5 f4_4 ((Em0.keep K2q).wr W4) (Or.inl ow392) ow119 (ty := .int) (by decide) rfl rfl (g := (jay m 266 (oR hm) (oi cc) (oR ky) (oR vl) (oi 1) (oi 1) (oR tb) (.val .null) (oi 16) (oi ((15 : Int32) &&& cc)) ou ou ou [(.int (mc + (1 : Int32))), (.ref hm)])) rfl rfl (dd 136 rfl)
 refine ja st6 ?_
 have f6_1 := f4_1.other W6 (Or.inr (jfI hw))
 have f6_2 := f4_2.other W6 (Or.inr (jfJ hw))
 have f6_3 := f4_3.other W6 (Or.inr (jfK hw))
 have f6_4 : Fld Z h6 hm S1' S12' "I" (.int (mc + (1 : Int32))) := f4_4.same W6
 have f6_6 := V4.other W6 ((Exa.ne ((Et0.keep K2q).wr W4) ((Em0.keep K2q).wr W4) (by decide)))
 have f6_8 := f4_8.other W6 (Or.inl (Ne.symm ne_hm_nd))
 have f6_9 := f4_9.other W6 (Or.inl (Ne.symm ne_hm_nd))
 have f6_10 := f4_10.other W6 (Or.inl (Ne.symm ne_hm_nd))
 have f6_11 := f4_11.other W6 (Or.inl (Ne.symm ne_hm_nd))
 have N6 := Fr.snoc X6 N4 g_hm
 have Z6 : n0 ≤ h6.size := Nat.le_trans Z4 (Keep.of_wr W6).1
 have K6 : Keep h0 h6 [hm, tb] := K4.wr W6 (Or.inl (List.mem_of_getElem? (i := 0) rfl))
 refine ja (A := oW p e below T6 (jay m 271 (oR hm) (oi cc) (oR ky) (oR vl) (oi 1) (oi 1) (oR tb) (.val .null) (oi 16) (oi ((15 : Int32) &&& cc)) ou ou ou [(.ref hm), (.ref hm)])) (fun t k => by
  refine XS.aloadN X6.here hx rfl (dd 137 rfl) rfl rfl ?_
  refine XS.dup X6.here hx rfl (dd 138 rfl) rfl rfl ?_
  exact k) ?_
 obtain ⟨T7, X7, e7, st7⟩ := getF X6 hx hZ hown (host := "") (Or.inl ow317) Via.refl e6 f6_2 (g := (jay m 271 (oR hm) (oi cc) (oR ky) (oR vl) (oi 1) (oi 1) (oR tb) (.val .null) (oi 16) (oi ((15 : Int32) &&& cc)) ou ou ou [(.ref hm), (.ref hm)])) rfl rfl (dd 139 rfl)
 refine ja st7 ?_
 refine ja (A := oW p e below T7 (jay m 277 (oR hm) (oi cc) (oR ky) (oR vl) (oi 1) (oi 1) (oR tb) (.val .null) (oi 16) (oi ((15 : Int32) &&& cc)) ou ou ou [(.int (sz + (1 : Int32))), (.ref hm), (.int (sz + (1 : Int32)))])) (fun t k => by
  refine XS.iconst X7.here hx rfl (dd 140 rfl) ?_
  refine XS.iadd X7.here hx rfl (dd 141 rfl) rfl ?_
  refine XS.dupX1 X7.here hx rfl (dd 142 rfl) rfl rfl rfl ?_
  exact k) ?_
 obtain ⟨T8, h8, X8, e8, W8, st8⟩ := putF X7 hx hZ hown (host := "") (Or.inl ow317) Via.refl e7 f6_2 (((Em0.keep K2q).wr W4).wr W6) (Or.inl ow318) ow119 (ty := .int) (by decide) rfl rfl (g := (jay m 277 (oR hm) (oi cc) (oR ky) (oR vl) (oi 1) (oi 1) (oR tb) (.val .null) (oi 16) (oi ((15 : Int32) &&& cc)) ou ou ou [(.int (sz + (1 : Int32))), (.ref hm), (.int (sz + (1 : Int32)))])) rfl rfl (dd 143 rfl)
 refine ja st8 ?_
 have f8_1 := f6_1.other W8 (Or.inr (jfL hw))
 have f8_2 : Fld Z h8 hm S1' S8' "I" (.int (sz + (1 : Int32))) := f6_2.same W8
 have f8_3 := f6_3.other W8 (Or.inr (jfM hw))
 have f8_4 := f6_4.other W8 (Or.inr (jfN hw))
 have f8_6 := f6_6.other W8 ((Exa.ne (((Et0.keep K2q).wr W4).wr W6) (((Em0.keep K2q).wr W4).wr W6) (by decide)))
 have f8_8 := f6_8.other W8 (Or.inl (Ne.symm ne_hm_nd))
 have f8_9 := f6_9.other W8 (Or.inl (Ne.symm ne_hm_nd))
 have f8_10 := f6_10.other W8 (Or.inl (Ne.symm ne_hm_nd))
 have f8_11 := f6_11.other W8 (Or.inl (Ne.symm ne_hm_nd))
 have N8 := Fr.snoc X8 N6 g_hm
 have Z8 : n0 ≤ h8.size := Nat.le_trans Z6 (Keep.of_wr W8).1
 have K8 : Keep h0 h8 [hm, tb] := K6.wr W8 (Or.inl (List.mem_of_getElem? (i := 0) rfl))
 refine ja (A := oW p e below T8 (jay m 281 (oR hm) (oi cc) (oR ky) (oR vl) (oi 1) (oi 1) (oR tb) (.val .null) (oi 16) (oi ((15 : Int32) &&& cc)) ou ou ou [(.ref hm), (.int (sz + (1 : Int32)))])) (fun t k => by
  refine XS.aloadN X8.here hx rfl (dd 144 rfl) rfl rfl ?_
  exact k) ?_
 obtain ⟨T9, X9, e9, st9⟩ := getF X8 hx hZ hown (host := "") (Or.inl ow367) Via.refl e8 f8_3 (g := (jay m 281 (oR hm) (oi cc) (oR ky) (oR vl) (oi 1) (oi 1) (oR tb) (.val .null) (oi 16) (oi ((15 : Int32) &&& cc)) ou ou ou [(.ref hm), (.int (sz + (1 : Int32)))])) rfl rfl (dd 145 rfl)
 refine ja st9 ?_
 refine ja (A := oW p e below T9 (jay m 295 (oR hm) (oi cc) (oR ky) (oR vl) (oi 1) (oi 1) (oR tb) (.val .null) (oi 16) (oi ((15 : Int32) &&& cc)) ou ou ou [(.int 1), (.ref hm)])) (fun t k => by
  refine XS.icmpYes X9.here hx rfl (pc0 := 284) (pc' := 292) rfl (dd 146 rfl) rfl (flt hsz).2.2.2 (by decide) (by decide) ?_
  show oW p e below T9 (jay m 292 (oR hm) (oi cc) (oR ky) (oR vl) (oi 1) (oi 1) (oR tb) (.val .null) (oi 16) (oi ((15 : Int32) &&& cc)) ou ou ou []) _
  refine XS.aloadN X9.here hx rfl (dd 150 rfl) rfl rfl ?_
  refine XS.iload X9.here hx rfl (dd 151 rfl) rfl ?_
  exact k) ?_
 obtain ⟨_, T10, L10, X10, hQ10, st10⟩ := jax X9 hx hZ hown ow393 ow394 ow396 ow395 ow397 ow120 (jdD l Z a0 hw [] hm h8 n0 Z8 ) e9 (notFace_of_selects (args := #[]) (mvT hZ ow396)) ((((Em0.keep K2q).wr W4).wr W6).wr W8) (by decide) (g := (jay m 295 (oR hm) (oi cc) (oR ky) (oR vl) (oi 1) (oi 1) (oR tb) (.val .null) (oi 16) (oi ((15 : Int32) &&& cc)) ou ou ou [(.int 1), (.ref hm)])) rfl (by rw [hml]; rfl) (rest := []) rfl (lenOf jcN rfl) rfl (W := 0) (Nat.le_of_eq rfl) (dd 152 rfl) (by decide)
 obtain ⟨rfl, N10q, eh10⟩ := hQ10
 have N10 := Fr.app N8 N10q
 refine ja st10 ?_
 refine ja (A := oW p e below T10 (jay m 299 (oR hm) (oi cc) (oR ky) (oR vl) (oi 1) (oi 1) (oR tb) (.val .null) (oi 16) (oi ((15 : Int32) &&& cc)) ou ou ou [.null])) (fun t k => by
  refine XS.aconstNull X10.here hx rfl (dd 153 rfl) ?_
  exact k) ?_
 refine jE X10 hx Bd hPf (by decide) (by decide) rfl rfl rfl (dd 154 rfl) ?_
 rw [eh10]
 exact ⟨nd, rfl, N10, K8, sz_nd, f8_6, f8_1, f8_2, f8_3, f8_4, (((p2_0.wr W4).wr W6).wr W8), f8_8, f8_9, f8_10, f8_11⟩
abbrev jdm (m : MethodId) (pc : Nat) (a0 a1 a2 : Slot) (S : List Value) : JFrame := mkF m pc #[a0, a1, a2] S
theorem oD69_31j : oDec jdk_69_method_31_code [(0, .aload_n 0, 1), (1, .aload_n 1, 1), (2, .invokestatic 149, 3), (5, .aload_n 1, 1), (6, .aload_n 2, 1), (7, .iconst 1, 1), (8, .iconst 1, 1), (9, .invokevirtual 152, 3), (12, .areturn, 1)] := by decide +kernel
theorem jad : parseMethodDescriptor "(Ljava/lang/Object;)I" = some ⟨[(.object "java/lang/Object")], some .int⟩ := by decide +kernel
theorem jy : parseMethodDescriptor "(ILjava/lang/Object;Ljava/lang/Object;ZZ)Ljava/lang/Object;" = some ⟨[.int, (.object "java/lang/Object"), (.object "java/lang/Object"), .boolean, .boolean], some (.object "java/lang/Object")⟩ := by decide +kernel
theorem jcj (m : MethodId) (x0 : Addr) (x1 : Addr) (x2 : Addr) : entryFrame m #[(.ref x0), (.ref x1), (.ref x2)] 3 = mkF m 0 #[(oR x0), (oR x1), (oR x2)] [] := by first | (simp [entryFrame, mkF, argsToLocals, Value.category]; done) | rfl
def jgJ (Z : State) (hm : Addr) (ps : Addr) (vl : Addr) (cz : Int32) (cc : Int32) (h0 : Heap) (n0 : Nat) (v : Option Value) (h : Heap) (L : List Loc) : Prop := ∃ (tb : Addr) (kt : ClassId) (nd : Addr), v = some .null ∧ Fr n0 L ∧ Keep h0 h [hm, ps] ∧ h0.size ≤ tb ∧ h0.size ≤ nd ∧ Exa Z h tb S16' ∧ Ovr Z kt S5' ∧ Arv Z h tb kt (.object S5') (16 : Int32) (([.null, .null, .null, .null, .null, .null, .null, .null, .null, .null, .null, .null, .null, .null, .null, .null] : List Value).set ((15 : Int32) &&& cc).toNatClampNeg (.ref nd)) .null ∧ Fld Z h hm S1' S22' S16' (.ref tb) ∧ Fld Z h hm S1' S8' "I" (.int 1) ∧ Fld Z h hm S1' S23' "I" (.int 12) ∧ Fld Z h hm S1' S12' "I" (.int 1) ∧ Exa Z h nd S5' ∧ Fld Z h nd S5' "hash" "I" (.int cc) ∧ Fld Z h nd S5' "key" S9' (.ref ps) ∧ Fld Z h nd S5' S21' S9' (.ref vl) ∧ Fld Z h nd S5' "next" S31' .null ∧ jn Z n0 h ps cc ∧ Sta Z h S2' S26' "Z" (.int cz)
theorem jeS (l : Launch) (Z : State) (a0 : Array Value) (hw : oH a0 Z) (ws : List Jvm.Cond) (hm : Addr) (ps : Addr) (vl : Addr) (cz : Int32) (cc : Int32) (h0 : Heap) (n0 : Nat) (Z0 : n0 ≤ h0.size) (Sc0 : Sta Z h0 S2' S26' "Z" (.int cz)) (hcz : ¬ cz = (0 : Int32)) (HS0 : jn Z n0 h0 ps cc) (Em0 : Exa Z h0 hm S1') (g_hm : n0 ≤ hm) (Ft0 : Fld Z h0 hm S1' S22' S16' .null) (Fs0 : Fld Z h0 hm S1' S8' "I" (.int 0)) (Fh0 : Fld Z h0 hm S1' S23' "I" (.int 0)) (Fm0 : Fld Z h0 hm S1' S12' "I" (.int 0)) (hcc : jaL cc) :
  ji l Z M3' jdk_69_method_31_code 3 (some (.object S0')) ws ({ frames := 4, cells := 2, slots := 20, locals := 71 } : Room) #[(.ref hm), (.ref ps), (.ref vl)] h0 (jgJ Z hm ps vl cz cc h0 n0) := by
 refine jb (plainFor_of_name jp) (fun m => jcj m hm ps vl) ?_
 intro p e s m below meth c s₁ Bd hx hby hml hown hZ X0 e0 Pf hPf
 have N0 := Fr.nil n0
 have dd := oD69_31j.hb hby
 have ow120 := ow hw 120 rfl
 have ow334 := ow hw 334 rfl
 have ow335 := ow hw 335 rfl
 have ow336 := ow hw 336 rfl
 have ow355 := ow hw 355 rfl
 have ow356 := ow hw 356 rfl
 have ow357 := ow hw 357 rfl
 have ow358 := ow hw 358 rfl
 have ow359 := ow hw 359 rfl
 refine ja (A := oW p e below s₁ (jdm m 2 (oR hm) (oR ps) (oR vl) [(.ref ps), (.ref hm)])) (fun t k => by
  refine XS.aloadN X0.here hx rfl (dd 0 rfl) rfl rfl ?_
  refine XS.aloadN X0.here hx rfl (dd 1 rfl) rfl rfl ?_
  exact k) ?_
 obtain ⟨_, T1, L1, X1, hQ1, st1⟩ := jH X0 hx hZ hown ow334 ow335 ow336 ow120 (jcG l Z a0 hw [] ps cz cc h0 n0 Z0 Sc0 hcz HS0 hcc) e0 (by decide) (g := (jdm m 2 (oR hm) (oR ps) (oR vl) [(.ref ps), (.ref hm)])) rfl (by rw [hml]; rfl) (rest := [(.ref hm)]) rfl (lenOf jad rfl) rfl (W := 1) (Nat.le_of_eq rfl) (dd 2 rfl) (by decide)
 obtain ⟨rfl, N1q, K1q, p1_0, p1_1⟩ := hQ1
 have N1 := Fr.app N0 N1q
 have f1_4 := Ft0.keep K1q (ninS (Exa.ne Em0 HS0.2.1 (by decide)) nin0)
 have f1_5 := Fs0.keep K1q (ninS (Exa.ne Em0 HS0.2.1 (by decide)) nin0)
 have f1_6 := Fh0.keep K1q (ninS (Exa.ne Em0 HS0.2.1 (by decide)) nin0)
 have f1_7 := Fm0.keep K1q (ninS (Exa.ne Em0 HS0.2.1 (by decide)) nin0)
 have Z1 : n0 ≤ T1.heap.size := Nat.le_trans Z0 K1q.1
 have K1 : Keep h0 T1.heap [hm, ps] := (Keep.refl h0 [hm, ps]).trans K1q (allS (Or.inl (List.mem_of_getElem? (i := 1) rfl)) all0)
 refine ja st1 ?_
 refine ja (A := oW p e below T1 (jdm m 9 (oR hm) (oR ps) (oR vl) [(.int 1), (.int 1), (.ref vl), (.ref ps), (.int cc), (.ref hm)])) (fun t k => by
  refine XS.aloadN X1.here hx rfl (dd 3 rfl) rfl rfl ?_
  refine XS.aloadN X1.here hx rfl (dd 4 rfl) rfl rfl ?_
  refine XS.iconst X1.here hx rfl (dd 5 rfl) ?_
  show oW p e below T1 (jdm m 8 (oR hm) (oR ps) (oR vl) [(.int 1), (.ref vl), (.ref ps), (.int cc), (.ref hm)]) _
  refine XS.iconst X1.here hx rfl (dd 6 rfl) ?_
  exact k) ?_
 obtain ⟨_, T2, L2, X2, hQ2, st2⟩ := jax X1 hx hZ hown ow355 ow356 ow358 ow357 ow359 ow120 (jgH l Z a0 hw [] hm cc ps vl T1.heap n0 Z1 (Em0.keep K1q) g_hm f1_4 f1_5 f1_6 f1_7 hcc) rfl (notFace_of_selects (args := #[]) (mvT hZ ow358)) (Em0.keep K1q) (by decide) (g := (jdm m 9 (oR hm) (oR ps) (oR vl) [(.int 1), (.int 1), (.ref vl), (.ref ps), (.int cc), (.ref hm)])) rfl (by rw [hml]; rfl) (rest := []) rfl (lenOf jy rfl) rfl (W := 0) (Nat.le_of_eq rfl) (dd 7 rfl) (by decide)
 obtain ⟨tb, kt, nd, rfl, N2q, K2q, s_tb, s_nd, p2_0, p2_1, p2_2, p2_3, p2_4, p2_5, p2_6, p2_7, p2_8, p2_9, p2_10, p2_11⟩ := hQ2
 have N2 := Fr.app N1 N2q
 have g_tb : n0 ≤ tb := Nat.le_trans Z1 s_tb
 have sz_tb : h0.size ≤ tb := Nat.le_trans K1.1 s_tb
 have ne_hm_tb : hm ≠ tb := Nat.ne_of_lt (Nat.lt_of_lt_of_le (Em0.keep K1q).lt s_tb)
 have ne_ps_tb : ps ≠ tb := Nat.ne_of_lt (Nat.lt_of_lt_of_le p1_0.2.1.lt s_tb)
 have g_nd : n0 ≤ nd := Nat.le_trans Z1 s_nd
 have sz_nd : h0.size ≤ nd := Nat.le_trans K1.1 s_nd
 have ne_hm_nd : hm ≠ nd := Nat.ne_of_lt (Nat.lt_of_lt_of_le (Em0.keep K1q).lt s_nd)
 have ne_ps_nd : ps ≠ nd := Nat.ne_of_lt (Nat.lt_of_lt_of_le p1_0.2.1.lt s_nd)
 have f2_6 : jn Z n0 T2.heap ps cc := p1_0.keep K2q (allS ⟨_, (Em0.keep K1q), by decide⟩ all0)
 have f2_7 := jC p1_1 K2q (allS (jaZ (Em0.keep K1q)) all0)
 have Z2 : n0 ≤ T2.heap.size := Nat.le_trans Z1 K2q.1
 have K2 : Keep h0 T2.heap [hm, ps] := K1.trans K2q (allS (Or.inl (List.mem_of_getElem? (i := 0) rfl)) all0)
 refine ja st2 ?_
 refine jE X2 hx Bd hPf (by decide) (by decide) rfl rfl rfl (dd 8 rfl) ?_
 exact ⟨tb, kt, nd, rfl, N2, K2, sz_tb, sz_nd, p2_0, p2_1, p2_2, p2_3, p2_4, p2_5, p2_6, p2_7, p2_8, p2_9, p2_10, p2_11, f2_6, f2_7⟩
abbrev jdn (m : MethodId) (pc : Nat) (a0 a1 a2 : Slot) (S : List Value) : JFrame := mkF m pc #[a0, a1, a2] S
def jgK (Z : State) (hm : Addr) (ps : Addr) (vl : Addr) (cz : Int32) (cc : Int32) (tb : Addr) (kt : ClassId) (tvs : List Value) (sz mc : Int32) (h0 : Heap) (n0 : Nat) (v : Option Value) (h : Heap) (L : List Loc) : Prop := ∃ nd : Addr, v = some .null ∧ Fr n0 L ∧ Keep h0 h [hm, tb, ps] ∧ h0.size ≤ nd ∧ Arv Z h tb kt (.object S5') (16 : Int32) (tvs.set ((15 : Int32) &&& cc).toNatClampNeg (.ref nd)) .null ∧ Fld Z h hm S1' S22' S16' (.ref tb) ∧ Fld Z h hm S1' S8' "I" (.int (sz + (1 : Int32))) ∧ Fld Z h hm S1' S23' "I" (.int 12) ∧ Fld Z h hm S1' S12' "I" (.int (mc + (1 : Int32))) ∧ Exa Z h nd S5' ∧ Fld Z h nd S5' "hash" "I" (.int cc) ∧ Fld Z h nd S5' "key" S9' (.ref ps) ∧ Fld Z h nd S5' S21' S9' (.ref vl) ∧ Fld Z h nd S5' "next" S31' .null ∧ jn Z n0 h ps cc ∧ Sta Z h S2' S26' "Z" (.int cz)
theorem jeT (l : Launch) (Z : State) (a0 : Array Value) (hw : oH a0 Z) (ws : List Jvm.Cond) (hm : Addr) (ps : Addr) (vl : Addr) (cz : Int32) (cc : Int32) (tb : Addr) (kt : ClassId) (tvs : List Value) (sz mc : Int32) (h0 : Heap) (n0 : Nat) (Z0 : n0 ≤ h0.size) (Sc0 : Sta Z h0 S2' S26' "Z" (.int cz)) (hcz : ¬ cz = (0 : Int32)) (HS0 : jn Z n0 h0 ps cc) (Em0 : Exa Z h0 hm S1') (g_hm : n0 ≤ hm) (Ft0 : Fld Z h0 hm S1' S22' S16' (.ref tb)) (Fs0 : Fld Z h0 hm S1' S8' "I" (.int sz)) (Fh0 : Fld Z h0 hm S1' S23' "I" (.int 12)) (Fm0 : Fld Z h0 hm S1' S12' "I" (.int mc)) (hcc : jaL cc) (Et0 : Exa Z h0 tb S16') (Ov0 : Ovr Z kt S5') (Vt0 : Arv Z h0 tb kt (.object S5') (16 : Int32) tvs .null) (g_tb : n0 ≤ tb) (hlen : tvs.length = 16) (hnu : tvs.getD ((15 : Int32) &&& cc).toNatClampNeg .null = .null) (hsz : ¬ (12 : Int32) < (sz + (1 : Int32))) :
  ji l Z M3' jdk_69_method_31_code 3 (some (.object S0')) ws ({ frames := 4, cells := 2, slots := 20, locals := 71 } : Room) #[(.ref hm), (.ref ps), (.ref vl)] h0 (jgK Z hm ps vl cz cc tb kt tvs sz mc h0 n0) := by
 refine jb (plainFor_of_name jp) (fun m => jcj m hm ps vl) ?_
 intro p e s m below meth c s₁ Bd hx hby hml hown hZ X0 e0 Pf hPf
 have N0 := Fr.nil n0
 have dd := oD69_31j.hb hby
 have ow120 := ow hw 120 rfl
 have ow334 := ow hw 334 rfl
 have ow335 := ow hw 335 rfl
 have ow336 := ow hw 336 rfl
 have ow355 := ow hw 355 rfl
 have ow356 := ow hw 356 rfl
 have ow357 := ow hw 357 rfl
 have ow358 := ow hw 358 rfl
 have ow359 := ow hw 359 rfl
 refine ja (A := oW p e below s₁ (jdn m 2 (oR hm) (oR ps) (oR vl) [(.ref ps), (.ref hm)])) (fun t k => by
  refine XS.aloadN X0.here hx rfl (dd 0 rfl) rfl rfl ?_
  refine XS.aloadN X0.here hx rfl (dd 1 rfl) rfl rfl ?_
  exact k) ?_
 obtain ⟨_, T1, L1, X1, hQ1, st1⟩ := jH X0 hx hZ hown ow334 ow335 ow336 ow120 (jcG l Z a0 hw [] ps cz cc h0 n0 Z0 Sc0 hcz HS0 hcc) e0 (by decide) (g := (jdn m 2 (oR hm) (oR ps) (oR vl) [(.ref ps), (.ref hm)])) rfl (by rw [hml]; rfl) (rest := [(.ref hm)]) rfl (lenOf jad rfl) rfl (W := 1) (Nat.le_of_eq rfl) (dd 2 rfl) (by decide)
 obtain ⟨rfl, N1q, K1q, p1_0, p1_1⟩ := hQ1
 have N1 := Fr.app N0 N1q
 have f1_4 := Ft0.keep K1q (ninS (Exa.ne Em0 HS0.2.1 (by decide)) nin0)
 have f1_5 := Fs0.keep K1q (ninS (Exa.ne Em0 HS0.2.1 (by decide)) nin0)
 have f1_6 := Fh0.keep K1q (ninS (Exa.ne Em0 HS0.2.1 (by decide)) nin0)
 have f1_7 := Fm0.keep K1q (ninS (Exa.ne Em0 HS0.2.1 (by decide)) nin0)
 have f1_9 := Vt0.keep K1q (ninS (Exa.ne Et0 HS0.2.1 (by decide)) nin0)
 have Z1 : n0 ≤ T1.heap.size := Nat.le_trans Z0 K1q.1
 have K1 : Keep h0 T1.heap [hm, tb, ps] := (Keep.refl h0 [hm, tb, ps]).trans K1q (allS (Or.inl (List.mem_of_getElem? (i := 2) rfl)) all0)
 refine ja st1 ?_
 refine ja (A := oW p e below T1 (jdn m 9 (oR hm) (oR ps) (oR vl) [(.int 1), (.int 1), (.ref vl), (.ref ps), (.int cc), (.ref hm)])) (fun t k => by
  refine XS.aloadN X1.here hx rfl (dd 3 rfl) rfl rfl ?_
  refine XS.aloadN X1.here hx rfl (dd 4 rfl) rfl rfl ?_
  refine XS.iconst X1.here hx rfl (dd 5 rfl) ?_
  show oW p e below T1 (jdn m 8 (oR hm) (oR ps) (oR vl) [(.int 1), (.ref vl), (.ref ps), (.int cc), (.ref hm)]) _
  refine XS.iconst X1.here hx rfl (dd 6 rfl) ?_
  exact k) ?_
 obtain ⟨_, T2, L2, X2, hQ2, st2⟩ := jax X1 hx hZ hown ow355 ow356 ow358 ow357 ow359 ow120 (jgI l Z a0 hw [] hm cc ps vl tb kt tvs sz mc T1.heap n0 Z1 (Em0.keep K1q) g_hm f1_4 f1_5 f1_6 f1_7 hcc (Et0.keep K1q) Ov0 f1_9 g_tb hlen hnu hsz) rfl (notFace_of_selects (args := #[]) (mvT hZ ow358)) (Em0.keep K1q) (by decide) (g := (jdn m 9 (oR hm) (oR ps) (oR vl) [(.int 1), (.int 1), (.ref vl), (.ref ps), (.int cc), (.ref hm)])) rfl (by rw [hml]; rfl) (rest := []) rfl (lenOf jy rfl) rfl (W := 0) (Nat.le_of_eq rfl) (dd 7 rfl) (by decide)
 obtain ⟨n2d, rfl, N2q, K2q, s_n2d, p2_0, p2_1, p2_2, p2_3, p2_4, p2_5, p2_6, p2_7, p2_8, p2_9⟩ := hQ2
 have N2 := Fr.app N1 N2q
 have g_n2d : n0 ≤ n2d := Nat.le_trans Z1 s_n2d
 have sz_n2d : h0.size ≤ n2d := Nat.le_trans K1.1 s_n2d
 have ne_hm_n2d : hm ≠ n2d := Nat.ne_of_lt (Nat.lt_of_lt_of_le (Em0.keep K1q).lt s_n2d)
 have ne_ps_n2d : ps ≠ n2d := Nat.ne_of_lt (Nat.lt_of_lt_of_le p1_0.2.1.lt s_n2d)
 have ne_tb_n2d : tb ≠ n2d := Nat.ne_of_lt (Nat.lt_of_lt_of_le (Et0.keep K1q).lt s_n2d)
 have f2_8 : jn Z n0 T2.heap ps cc := p1_0.keep K2q (allS ⟨_, (Em0.keep K1q), by decide⟩ (allS ⟨_, (Et0.keep K1q), by decide⟩ all0))
 have f2_9 := jC p1_1 K2q (allS (jaZ (Em0.keep K1q)) (allS (jaZ (Et0.keep K1q)) all0))
 have Z2 : n0 ≤ T2.heap.size := Nat.le_trans Z1 K2q.1
 have K2 : Keep h0 T2.heap [hm, tb, ps] := K1.trans K2q (allS (Or.inl (List.mem_of_getElem? (i := 0) rfl)) (allS (Or.inl (List.mem_of_getElem? (i := 1) rfl)) all0))
 refine ja st2 ?_
 refine jE X2 hx Bd hPf (by decide) (by decide) rfl rfl rfl (dd 8 rfl) ?_
 exact ⟨n2d, rfl, N2, K2, sz_n2d, p2_0, p2_1, p2_2, p2_3, p2_4, p2_5, p2_6, p2_7, p2_8, p2_9, f2_8, f2_9⟩
def jaW (Z : State) (h : Heap) (b : Addr) (w : Int32) : Prop := Exa Z h b S35' ∧ Fld Z h b S35' S21' "I" (.int w)
def jcd (Z : State) (h : Heap) (ca : Addr) : Prop := Sta Z h S58' "high" "I" (.int 127) ∧ Sta Z h S58' "cache" S37' (.ref ca) ∧ ∃ cl, Arr Z h ca cl (.object S35') ∧ Exa Z h ca S37' ∧ cl.slots.size = 256 ∧ ∀ j : Int32, ¬ (j < 0 ∨ cl.slots.size ≤ j.toNatClampNeg) → ∃ b : Addr, cl.slots[j.toNatClampNeg]? = some (.ref b) ∧ jaW Z h b (j - 128)
theorem jaW.ext {Z : State} {h h' : Heap} {b : Addr} {w : Int32} (B : jaW Z h b w) (E : Ext h h') : jaW Z h' b w := ⟨B.1.ext E, B.2.ext E⟩
theorem jaW.keep {Z : State} {h h' : Heap} {b : Addr} {w : Int32} {ws : List Addr} (B : jaW Z h b w) (K : Keep h h' ws) (N : ∀ x ∈ ws, jab Z h x [S35', S37']) : jaW Z h' b w := ⟨B.1.keep K, B.2.keep K (jV N B.1 (by simp))⟩
theorem jab.ns {Z : State} {h : Heap} {ws : List Addr} {L : List String} (N : ∀ x ∈ ws, jab Z h x L) : ∀ x ∈ ws, ∀ cell : Cell, h[x]? = some cell → cell.vm.isStatics = false := fun x q => by
 obtain ⟨C, e, -⟩ := N x q; exact jaZ e
theorem jcd.ext {Z : State} {h h' : Heap} {ca : Addr} (I : jcd Z h ca) (E : Ext h h') : jcd Z h' ca := by
 obtain ⟨s1, s2, cl, A, e, q, H⟩ := I
 exact ⟨s1.ext E, s2.ext E, cl, A.ext E, e.ext E, q, fun j hj => by obtain ⟨b, h1, h2⟩ := H j hj; exact ⟨b, h1, h2.ext E⟩⟩
theorem jcd.keep {Z : State} {h h' : Heap} {ca : Addr} {ws : List Addr} (I : jcd Z h ca) (K : Keep h h' ws) (N : ∀ x ∈ ws, jab Z h x [S35', S37']) : jcd Z h' ca := by
 obtain ⟨s1, s2, cl, A, e, q, H⟩ := I
 exact ⟨jC s1 K (jab.ns N), jC s2 K (jab.ns N), cl, ⟨K.2.1 _ _ A.1 (jV N e (by simp)), A.2⟩, e.keep K, q, fun j hj => by obtain ⟨b, h1, h2⟩ := H j hj; exact ⟨b, h1, h2.keep K N⟩⟩
theorem jdi {w : Int32} (h : w = -1 ∨ jaf w) : ¬ (w + 128) < 0 ∧ (w + 128) < 256 ∧ ¬ w < -128 ∧ ¬ 127 < w ∧ (w + 128) - 128 = w := by rcases h with rfl | rfl | rfl | rfl <;> decide
abbrev jdE (m : MethodId) (pc : Nat) (a0 : Slot) (S : List Value) : JFrame := mkF m pc #[a0] S
theorem oD33_22j : oDec jdk_33_method_22_code [(0, .iload_n 0, 1), (1, .bipush (-128), 2), (3, .if_icmp .lt 20, 3), (6, .iload_n 0, 1), (7, .getstatic 191, 3), (10, .if_icmp .gt 13, 3), (13, .getstatic 195, 3), (16, .iload_n 0, 1), (17, .sipush 128, 3), (20, .iadd, 1), (21, .aaload, 1), (22, .areturn, 1), (23, .new 1, 3), (26, .dup, 1), (27, .iload_n 0, 1), (28, .invokespecial 199, 3), (31, .areturn, 1)] := by decide +kernel
def jiz (Z : State) (pw : Int32) (ca : Addr) (h0 : Heap) (n0 : Nat) (v : Option Value) (h : Heap) (L : List Loc) : Prop := ∃ bx, v = some (.ref bx) ∧ Fr n0 L ∧ h = h0 ∧ jaW Z h bx pw
theorem jaY : plainName "java/lang/Integer" = true := by first | (simp [plainName, overriddenIn]; done) | decide +kernel
theorem jdF (l : Launch) (Z : State) (a0 : Array Value) (hw : oH a0 Z) (ws : List Jvm.Cond) (pw : Int32) (ca : Addr) (h0 : Heap) (n0 : Nat) (Z0 : n0 ≤ h0.size) (HI0 : jcd Z h0 ca) (hpw : pw = -1 ∨ jaf pw) :
  ji l Z (⟨S35', "valueOf", "(I)Ljava/lang/Integer;"⟩ : MethodName) jdk_33_method_22_code 1 (some (.object S35')) ws ({ frames := 0, cells := 0, slots := 0, locals := 0 } : Room) #[(.int pw)] h0 (jiz Z pw ca h0 n0) := by
 refine jb (plainFor_of_name jaY) (fun m => jbx m pw) ?_
 intro p e s m below meth c s₁ Bd hx hby hml hown hZ X0 e0 Pf hPf
 have N0 := Fr.nil n0
 have dd := oD33_22j.hb hby
 have ow323 := ow hw 323 rfl
 have ow325 := ow hw 325 rfl
 obtain ⟨Si0, Si1, cl, Ac, Eca, hcl, Hcl⟩ := id HI0
 have hjx : ¬ (pw + 128 < 0 ∨ cl.slots.size ≤ (pw + 128).toNatClampNeg) := by rw [hcl]; rcases hpw with rfl | rfl | rfl | rfl <;> decide
 obtain ⟨bx, hbx, Hbx⟩ := Hcl _ hjx
 rw [(jdi hpw).2.2.2.2] at Hbx
 obtain ⟨Si0, Si1, cl, Ac, Eca, hcl, Hcl⟩ := id HI0
 have hjx : ¬ (pw + 128 < 0 ∨ cl.slots.size ≤ (pw + 128).toNatClampNeg) := by rw [hcl]; rcases hpw with rfl | rfl | rfl | rfl <;> decide
 obtain ⟨bx, hbx, Hbx⟩ := Hcl _ hjx
 rw [(jdi hpw).2.2.2.2] at Hbx
 refine ja (A := oW p e below s₁ (jdE m 7 (oi pw) [(.int pw)])) (fun t k => by
  refine XS.iloadN X0.here hx rfl (dd 0 rfl) rfl ?_
  refine XS.bipush X0.here hx rfl (dd 1 rfl) ?_
  refine XS.icmpNo X0.here hx rfl (dd 2 rfl) rfl (flt (jdi hpw).2.2.1).1 ?_
  refine XS.iloadN X0.here hx rfl (dd 3 rfl) rfl ?_
  exact k) ?_
 obtain ⟨T1, X1, e1, st1⟩ := getS2 X0 hx hZ hown (host := "") (Or.inl ow323) Via.refl e0 Si0 (g := (jdE m 7 (oi pw) [(.int pw)])) rfl (dd 4 rfl)
 refine ja st1 ?_
 refine ja (A := oW p e below T1 (jdE m 13 (oi pw) [])) (fun t k => by
  refine XS.icmpNo X1.here hx rfl (dd 5 rfl) rfl (flt (jdi hpw).2.2.2.1).2.2.1 ?_
  exact k) ?_
 obtain ⟨T2, X2, e2, st2⟩ := getS2 X1 hx hZ hown (host := "") (Or.inl ow325) Via.refl e1 Si1 (g := (jdE m 13 (oi pw) [])) rfl (dd 6 rfl)
 refine ja st2 ?_
 refine ja (A := oW p e below T2 (jdE m 22 (oi pw) [(.ref bx)])) (fun t k => by
  refine XS.iloadN X2.here hx rfl (dd 7 rfl) rfl ?_
  refine XS.sipush X2.here hx rfl (dd 8 rfl) ?_
  refine XS.iadd X2.here hx rfl (dd 9 rfl) rfl ?_
  refine X2.aaload hx (by rw [e2]; exact Ac.1) (State.isArrayOf_alike hZ.alike Ac.2.1) rfl Ac.2.2 hjx hbx (g := (jdE m 21 (oi pw) [(.int (pw + (128 : Int32))), (.ref ca)])) rfl rfl (dd 10 rfl) _ ?_
  exact k) ?_
 refine jE X2 hx Bd hPf (by decide) (by decide) rfl rfl rfl (dd 11 rfl) ?_
 rw [e2]
 exact ⟨bx, rfl, N0, rfl, Hbx⟩
abbrev jkO (m : MethodId) (pc : Nat) (a0 : Slot) (S : List Value) : JFrame := mkF m pc #[a0] S
theorem oD33_27j : oDec jdk_33_method_27_code [(0, .aload_n 0, 1), (1, .getfield 205, 3), (4, .ireturn, 1)] := by decide +kernel
def jiA (Z : State) (bx : Addr) (pw : Int32) (h0 : Heap) (n0 : Nat) (v : Option Value) (h : Heap) (L : List Loc) : Prop := v = some (.int pw) ∧ Fr n0 L ∧ h = h0
theorem jgL (l : Launch) (Z : State) (a0 : Array Value) (hw : oH a0 Z) (ws : List Jvm.Cond) (bx : Addr) (pw : Int32) (h0 : Heap) (n0 : Nat) (Z0 : n0 ≤ h0.size) (HB0 : jaW Z h0 bx pw) :
  ji l Z (⟨S35', "intValue", "()I"⟩ : MethodName) jdk_33_method_27_code 1 (some .int) ws ({ frames := 0, cells := 0, slots := 0, locals := 0 } : Room) #[(.ref bx)] h0 (jiA Z bx pw h0 n0) := by
 refine jb (plainFor_of_name jaY) (fun m => jr m bx) ?_
 intro p e s m below meth c s₁ Bd hx hby hml hown hZ X0 e0 Pf hPf
 have N0 := Fr.nil n0
 have dd := oD33_27j.hb hby
 have ow474 := ow hw 474 rfl
 refine ja (A := oW p e below s₁ (jkO m 1 (oR bx) [(.ref bx)])) (fun t k => by
  refine XS.aloadN X0.here hx rfl (dd 0 rfl) rfl rfl ?_
  exact k) ?_
 obtain ⟨T1, X1, e1, st1⟩ := getF X0 hx hZ hown (host := "") (Or.inl ow474) Via.refl e0 HB0.2 (g := (jkO m 1 (oR bx) [(.ref bx)])) rfl rfl (dd 1 rfl)
 refine ja st1 ?_
 refine jaD X1 hx Bd hPf (by decide) (by decide) (dd 2 rfl) ?_
 rw [e1]
 exact ⟨rfl, N0, rfl⟩
abbrev jbK (m : MethodId) (pc : Nat) (a0 a1 a2 : Slot) (S : List Value) : JFrame := mkF m pc #[a0, a1, a2] S
theorem oD43_13j : oDec jdk_43_method_13_code [(0, .aload_n 0, 1), (1, .arraylength, 1), (2, .aload_n 1, 1), (3, .arraylength, 1), (4, .if_icmp .ne 30, 3), (7, .iconst 0, 1), (8, .istore_n 2, 1), (9, .iload_n 2, 1), (10, .aload_n 0, 1), (11, .arraylength, 1), (12, .if_icmp .ge 20, 3), (15, .aload_n 0, 1), (16, .iload_n 2, 1), (17, .baload, 1), (18, .aload_n 1, 1), (19, .iload_n 2, 1), (20, .baload, 1), (21, .if_icmp .eq 5, 3), (24, .iconst 0, 1), (25, .ireturn, 1), (26, .iinc 2 1, 3), (29, .goto (-20), 3), (32, .iconst 1, 1), (33, .ireturn, 1), (34, .iconst 0, 1), (35, .ireturn, 1)] := by decide +kernel
theorem jdo (m : MethodId) (x0 : Addr) (x1 : Addr) : entryFrame m #[(.ref x0), (.ref x1)] 3 = mkF m 0 #[(oR x0), (oR x1), ou] [] := by first | (simp [entryFrame, mkF, argsToLocals, Value.category]; done) | rfl
def jiB (Z : State) (pb : Addr) (qb : Addr) (kb kq : ClassId) (cc : Int32) (h0 : Heap) (n0 : Nat) (v : Option Value) (h : Heap) (L : List Loc) : Prop := v = some (.int 1) ∧ Fr n0 L ∧ h = h0
theorem jgM (l : Launch) (Z : State) (a0 : Array Value) (hw : oH a0 Z) (ws : List Jvm.Cond) (pb : Addr) (qb : Addr) (kb kq : ClassId) (cc : Int32) (h0 : Heap) (n0 : Nat) (Z0 : n0 ≤ h0.size) (Vb0 : Arv Z h0 pb kb .byte (1 : Int32) [.int cc] (.int 0)) (Vq0 : Arv Z h0 qb kq .byte (1 : Int32) [.int cc] (.int 0)) :
  ji l Z (⟨S57', "equals", "([B[B)Z"⟩ : MethodName) jdk_43_method_13_code 3 (some .boolean) ws ({ frames := 0, cells := 0, slots := 0, locals := 0 } : Room) #[(.ref pb), (.ref qb)] h0 (jiB Z pb qb kb kq cc h0 n0) := by
 refine jb (plainFor_of_name jW) (fun m => jdo m pb qb) ?_
 intro p e s m below meth c s₁ Bd hx hby hml hown hZ X0 e0 Pf hPf
 have N0 := Fr.nil n0
 have dd := oD43_13j.hb hby
 refine ja (A := oW p e below s₁ (jbK m 17 (oR pb) (oR qb) (oi 0) [(.int 0), (.ref pb)])) (fun t k => by
  refine XS.aloadN X0.here hx rfl (dd 0 rfl) rfl rfl ?_
  refine jM X0 hx hZ e0 Vb0 (g := (jbK m 1 (oR pb) (oR qb) ou [(.ref pb)])) rfl rfl (dd 1 rfl) _ ?_
  refine XS.aloadN X0.here hx rfl (dd 2 rfl) rfl rfl ?_
  refine jM X0 hx hZ e0 Vq0 (g := (jbK m 3 (oR pb) (oR qb) ou [(.ref qb), (.int 1)])) rfl rfl (dd 3 rfl) _ ?_
  refine XS.icmpNo X0.here hx rfl (dd 4 rfl) rfl (teq (by decide : (1 : Int32) = (1 : Int32))).2 ?_
  show oW p e below s₁ (jbK m 7 (oR pb) (oR qb) ou []) _
  refine XS.iconst X0.here hx rfl (dd 5 rfl) ?_
  refine XS.istoreN X0.here hx rfl (dd 6 rfl) rfl (l' := #[(oR pb), (oR qb), (oi 0)]) rfl ?_
  refine XS.iloadN X0.here hx rfl (dd 7 rfl) rfl ?_
  refine XS.aloadN X0.here hx rfl (dd 8 rfl) rfl rfl ?_
  refine jM X0 hx hZ e0 Vb0 (g := (jbK m 11 (oR pb) (oR qb) (oi 0) [(.ref pb), (.int 0)])) rfl rfl (dd 9 rfl) _ ?_
  show oW p e below s₁ (jbK m 12 (oR pb) (oR qb) (oi 0) [(.int 1), (.int 0)]) _
  refine XS.icmpNo X0.here hx rfl (dd 10 rfl) rfl (tlt (by decide : (0 : Int32) < (1 : Int32))).2.1 ?_
  refine XS.aloadN X0.here hx rfl (dd 11 rfl) rfl rfl ?_
  refine XS.iloadN X0.here hx rfl (dd 12 rfl) rfl ?_
  exact k) ?_
 obtain ⟨cl1, Ar1, -, S1, -, H1, -⟩ := id (Vb0)
 have hi1 : ¬ ((0 : Int32) < 0 ∨ cl1.slots.size ≤ ((0 : Int32)).toNatClampNeg) := inb_of S1 ⟨by decide, by decide⟩
 have hv1 : cl1.slots[((0 : Int32)).toNatClampNeg]? = some (.int cc) := H1.at hi1 rfl
 refine ja (A := oW p e below s₁ (jbK m 20 (oR pb) (oR qb) (oi 0) [(.int 0), (.ref qb), (.int cc)])) (fun t k => by
  refine X0.baloadBytes hx (j := (0 : Int32)) (v := (.int cc)) (by rw [e0]; exact Ar1.1) (State.isArrayOf_alike hZ.alike Ar1.2.1) Ar1.2.2 hi1 hv1 (g := (jbK m 17 (oR pb) (oR qb) (oi 0) [(.int 0), (.ref pb)])) rfl rfl (dd 13 rfl) _ ?_
  refine XS.aloadN X0.here hx rfl (dd 14 rfl) rfl rfl ?_
  show oW p e below s₁ (jbK m 19 (oR pb) (oR qb) (oi 0) [(.ref qb), (.int cc)]) _
  refine XS.iloadN X0.here hx rfl (dd 15 rfl) rfl ?_
  exact k) ?_
 obtain ⟨cl2, Ar2, -, S2, -, H2, -⟩ := id (Vq0)
 have hi2 : ¬ ((0 : Int32) < 0 ∨ cl2.slots.size ≤ ((0 : Int32)).toNatClampNeg) := inb_of S2 ⟨by decide, by decide⟩
 have hv2 : cl2.slots[((0 : Int32)).toNatClampNeg]? = some (.int cc) := H2.at hi2 rfl
 refine ja (A := oW p e below s₁ (jbK m 33 (oR pb) (oR qb) (oi 1) [(.int 1)])) (fun t k => by
  refine X0.baloadBytes hx (j := (0 : Int32)) (v := (.int cc)) (by rw [e0]; exact Ar2.1) (State.isArrayOf_alike hZ.alike Ar2.2.1) Ar2.2.2 hi2 hv2 (g := (jbK m 20 (oR pb) (oR qb) (oi 0) [(.int 0), (.ref qb), (.int cc)])) rfl rfl (dd 16 rfl) _ ?_
  refine XS.icmpYes X0.here hx rfl (pc0 := 21) (pc' := 26) rfl (dd 17 rfl) rfl (teq (rfl : cc = cc)).1 (by decide) (by decide) ?_
  refine XS.iinc X0.here hx rfl (dd 20 rfl) rfl (l' := #[(oR pb), (oR qb), (oi 1)]) rfl ?_
  refine XS.goto X0.here hx rfl (pc0 := 29) (pc' := 9) rfl (dd 21 rfl) (by decide) (by decide) ?_
  show oW p e below s₁ (jbK m 9 (oR pb) (oR qb) (oi 1) []) _
  refine XS.iloadN X0.here hx rfl (dd 7 rfl) rfl ?_
  refine XS.aloadN X0.here hx rfl (dd 8 rfl) rfl rfl ?_
  refine jM X0 hx hZ e0 Vb0 (g := (jbK m 11 (oR pb) (oR qb) (oi 1) [(.ref pb), (.int 1)])) rfl rfl (dd 9 rfl) _ ?_
  refine XS.icmpYes X0.here hx rfl (pc0 := 12) (pc' := 32) rfl (dd 10 rfl) rfl (flt (by decide : ¬ ((1 : Int32) < (1 : Int32)))).2.1 (by decide) (by decide) ?_
  refine XS.iconst X0.here hx rfl (dd 22 rfl) ?_
  exact k) ?_
 refine jaw X0 hx Bd (by simp) hPf (by decide) (by decide) (dd 23 rfl) ?_
 rw [e0]
 exact ⟨rfl, N0, rfl⟩
abbrev jbd (m : MethodId) (pc : Nat) (a0 a1 a2 : Slot) (S : List Value) : JFrame := mkF m pc #[a0, a1, a2] S
theorem oD42_66j : oDec jdk_42_method_66_code [(0, .aload_n 0, 1), (1, .aload_n 1, 1), (2, .if_acmp .ne 5, 3), (5, .iconst 1, 1), (6, .ireturn, 1), (7, .aload_n 1, 1), (8, .instanceof 10, 3), (11, .ifCond .eq 43, 3), (14, .aload_n 1, 1), (15, .checkcast 10, 3), (18, .astore_n 2, 1), (19, .getstatic 38, 3), (22, .ifCond .eq 14, 3), (25, .aload_n 0, 1), (26, .getfield 15, 3), (29, .aload_n 2, 1), (30, .getfield 15, 3), (33, .if_icmp .ne 21, 3), (36, .aload_n 0, 1), (37, .getfield 9, 3), (40, .aload_n 2, 1), (41, .getfield 9, 3), (44, .invokestatic 541, 3), (47, .ifCond .eq 7, 3), (50, .iconst 1, 1), (51, .goto 4, 3), (54, .iconst 0, 1), (55, .ireturn, 1)] := by decide +kernel
theorem jcO : parseMethodDescriptor "([B[B)Z" = some ⟨[(.array .byte), (.array .byte)], some .boolean⟩ := by decide +kernel
def jiC (Z : State) (ps : Addr) (qs : Addr) (cz cc : Int32) (h0 : Heap) (n0 : Nat) (v : Option Value) (h : Heap) (L : List Loc) : Prop := v = some (.int 1) ∧ Fr n0 L ∧ h = h0
theorem jgN (l : Launch) (Z : State) (a0 : Array Value) (hw : oH a0 Z) (ws : List Jvm.Cond) (ps : Addr) (qs : Addr) (cz cc : Int32) (h0 : Heap) (n0 : Nat) (Z0 : n0 ≤ h0.size) (Sc0 : Sta Z h0 S2' S26' "Z" (.int cz)) (hcz : ¬ cz = (0 : Int32)) (HS0 : jn Z n0 h0 ps cc) (HQ0 : jn Z n0 h0 qs cc) (hne : ps ≠ qs) :
  ji l Z (⟨S2', "equals", "(Ljava/lang/Object;)Z"⟩ : MethodName) jdk_42_method_66_code 3 (some .boolean) ws ({ frames := 1, cells := 0, slots := 0, locals := 14 } : Room) #[(.ref ps), (.ref qs)] h0 (jiC Z ps qs cz cc h0 n0) := by
 refine jb (plainFor_of_name jac) (fun m => jdo m ps qs) ?_
 intro p e s m below meth c s₁ Bd hx hby hml hown hZ X0 e0 Pf hPf
 have N0 := Fr.nil n0
 have dd := oD42_66j.hb hby
 have ow35 := ow hw 35 rfl
 have ow38 := ow hw 38 rfl
 have ow40 := ow hw 40 rfl
 have ow51 := ow hw 51 rfl
 have ow53 := ow hw 53 rfl
 have ow463 := ow hw 463 rfl
 have ow464 := ow hw 464 rfl
 have ow465 := ow hw 465 rfl
 obtain ⟨g_ps, Ex0, Fc0, Fz0, ⟨hv, Fh0, hhv⟩, pb, kb, Fv0, Eb0, Vb0⟩ := id HS0
 obtain ⟨g_qs, Ey0, Gc0, -, -, qb, kq, Gv0, -, Vq0⟩ := id HQ0
 obtain ⟨g_ps, Ex0, Fc0, Fz0, ⟨hv, Fh0, hhv⟩, pb, kb, Fv0, Eb0, Vb0⟩ := id HS0
 obtain ⟨g_qs, Ey0, Gc0, -, -, qb, kq, Gv0, -, Vq0⟩ := id HQ0
 refine ja (A := oW p e below s₁ (jbd m 8 (oR ps) (oR qs) ou [(.ref qs)])) (fun t k => by
  refine XS.aloadN X0.here hx rfl (dd 0 rfl) rfl rfl ?_
  refine XS.aloadN X0.here hx rfl (dd 1 rfl) rfl rfl ?_
  refine Jvm.RoadKit.acmp (g := (jbd m 2 (oR ps) (oR qs) ou [(.ref qs), (.ref ps)])) X0 hx rfl rfl rfl (pc0 := 2) (pc' := 7) (same := false) rfl (dd 2 rfl) rfl (decide_eq_false fun q => hne (Value.ref.inj q)) (by decide) (by decide) ?_
  refine XS.aloadN X0.here hx rfl (dd 5 rfl) rfl rfl ?_
  exact k) ?_
 obtain ⟨T1, X1, e1, st1⟩ := instY X0 hx hZ hown ow40 e0 (Ins.self Ey0) (g := (jbd m 8 (oR ps) (oR qs) ou [(.ref qs)])) rfl rfl (dd 6 rfl)
 refine ja st1 ?_
 refine ja (A := oW p e below T1 (jbd m 15 (oR ps) (oR qs) ou [(.ref qs)])) (fun t k => by
  refine XS.ifNo X1.here hx rfl (dd 7 rfl) rfl ((if0 _ _).trans (feq (by decide : ¬ ((1 : Int32) = (0 : Int32)))).1) ?_
  show oW p e below T1 (jbd m 14 (oR ps) (oR qs) ou []) _
  refine XS.aloadN X1.here hx rfl (dd 8 rfl) rfl rfl ?_
  exact k) ?_
 obtain ⟨T2, X2, e2, st2⟩ := castY X1 hx hZ hown ow40 e1 (Ins.self Ey0) (g := (jbd m 15 (oR ps) (oR qs) ou [(.ref qs)])) rfl rfl (dd 9 rfl)
 refine ja st2 ?_
 refine ja (A := oW p e below T2 (jbd m 19 (oR ps) (oR qs) (oR qs) [])) (fun t k => by
  refine XS.astoreN X2.here hx rfl (dd 10 rfl) rfl rfl (l' := #[(oR ps), (oR qs), (oR qs)]) rfl ?_
  exact k) ?_
 obtain ⟨T3, X3, e3, st3⟩ := getS2 X2 hx hZ hown (host := "") (Or.inl ow35) Via.refl e2 Sc0 (g := (jbd m 19 (oR ps) (oR qs) (oR qs) [])) rfl (dd 11 rfl)
 refine ja st3 ?_
 refine ja (A := oW p e below T3 (jbd m 26 (oR ps) (oR qs) (oR qs) [(.ref ps)])) (fun t k => by
  refine XS.ifNo X3.here hx rfl (dd 12 rfl) rfl ((if0 _ _).trans (feq hcz).1) ?_
  refine XS.aloadN X3.here hx rfl (dd 13 rfl) rfl rfl ?_
  exact k) ?_
 obtain ⟨T4, X4, e4, st4⟩ := getF X3 hx hZ hown (host := "") (Or.inl ow53) Via.refl e3 Fc0 (g := (jbd m 26 (oR ps) (oR qs) (oR qs) [(.ref ps)])) rfl rfl (dd 14 rfl)
 refine ja st4 ?_
 refine ja (A := oW p e below T4 (jbd m 30 (oR ps) (oR qs) (oR qs) [(.ref qs), (.int 0)])) (fun t k => by
  refine XS.aloadN X4.here hx rfl (dd 15 rfl) rfl rfl ?_
  exact k) ?_
 obtain ⟨T5, X5, e5, st5⟩ := getF X4 hx hZ hown (host := "") (Or.inl ow53) Via.refl e4 Gc0 (g := (jbd m 30 (oR ps) (oR qs) (oR qs) [(.ref qs), (.int 0)])) rfl rfl (dd 16 rfl)
 refine ja st5 ?_
 refine ja (A := oW p e below T5 (jbd m 37 (oR ps) (oR qs) (oR qs) [(.ref ps)])) (fun t k => by
  refine XS.icmpNo X5.here hx rfl (dd 17 rfl) rfl (teq (by decide : (0 : Int32) = (0 : Int32))).2 ?_
  refine XS.aloadN X5.here hx rfl (dd 18 rfl) rfl rfl ?_
  exact k) ?_
 obtain ⟨T6, X6, e6, st6⟩ := getF X5 hx hZ hown (host := "") (Or.inl ow51) Via.refl e5 Fv0 (g := (jbd m 37 (oR ps) (oR qs) (oR qs) [(.ref ps)])) rfl rfl (dd 19 rfl)
 refine ja st6 ?_
 refine ja (A := oW p e below T6 (jbd m 41 (oR ps) (oR qs) (oR qs) [(.ref qs), (.ref pb)])) (fun t k => by
  refine XS.aloadN X6.here hx rfl (dd 20 rfl) rfl rfl ?_
  exact k) ?_
 obtain ⟨T7, X7, e7, st7⟩ := getF X6 hx hZ hown (host := "") (Or.inl ow51) Via.refl e6 Gv0 (g := (jbd m 41 (oR ps) (oR qs) (oR qs) [(.ref qs), (.ref pb)])) rfl rfl (dd 21 rfl)
 refine ja st7 ?_
 obtain ⟨_, T8, L8, X8, hQ8, st8⟩ := jH X7 hx hZ hown ow463 ow464 ow465 ow38 (jgM l Z a0 hw [] pb qb kb kq cc h0 n0 Z0 Vb0 Vq0) e7 (by decide) (g := (jbd m 44 (oR ps) (oR qs) (oR qs) [(.ref qb), (.ref pb)])) rfl (by rw [hml]; rfl) (rest := []) rfl (lenOf jcO rfl) rfl (W := 0) (Nat.le_of_eq rfl) (dd 22 rfl) (by decide)
 obtain ⟨rfl, N8q, eh8⟩ := hQ8
 have N8 := Fr.app N0 N8q
 refine ja st8 ?_
 refine ja (A := oW p e below T8 (jbd m 55 (oR ps) (oR qs) (oR qs) [(.int 1)])) (fun t k => by
  refine XS.ifNo X8.here hx rfl (dd 23 rfl) rfl ((if0 _ _).trans (feq (by decide : ¬ ((1 : Int32) = (0 : Int32)))).1) ?_
  refine XS.iconst X8.here hx rfl (dd 24 rfl) ?_
  show oW p e below T8 (jbd m 51 (oR ps) (oR qs) (oR qs) [(.int 1)]) _
  refine XS.goto X8.here hx rfl (pc0 := 51) (pc' := 55) rfl (dd 25 rfl) (by decide) (by decide) ?_
  exact k) ?_
 refine jaw X8 hx Bd (by simp) hPf (by decide) (by decide) (dd 27 rfl) ?_
 rw [eh8]
 exact ⟨rfl, N8, rfl⟩
abbrev jaO (m : MethodId) (pc : Nat) (a0 a1 a2 a3 a4 a5 a6 a7 : Slot) (S : List Value) : JFrame := mkF m pc #[a0, a1, a2, a3, a4, a5, a6, a7] S
theorem oD69_13j : oDec jdk_69_method_13_code [(0, .aload_n 0, 1), (1, .getfield 105, 3), (4, .dup, 1), (5, .astore_n 2, 1), (6, .ifnull 142, 3), (9, .aload_n 2, 1), (10, .arraylength, 1), (11, .dup, 1), (12, .istore 5, 2), (14, .ifCond .le 134, 3), (17, .aload_n 2, 1), (18, .iload 5, 2), (20, .iconst 1, 1), (21, .isub, 1), (22, .aload_n 1, 1), (23, .invokestatic 149, 3), (26, .dup, 1), (27, .istore 6, 2), (29, .iand, 1), (30, .aaload, 1), (31, .dup, 1), (32, .astore_n 3, 1), (33, .ifnull 115, 3), (36, .aload_n 3, 1), (37, .getfield 168, 3), (40, .iload 6, 2), (42, .if_icmp .ne 29, 3), (45, .aload_n 3, 1), (46, .getfield 170, 3), (49, .dup, 1), (50, .astore 7, 2), (52, .aload_n 1, 1), (53, .if_acmp .eq 16, 3), (56, .aload_n 1, 1), (57, .ifnull 14, 3), (60, .aload_n 1, 1), (61, .aload 7, 2), (63, .invokevirtual 173, 3), (66, .ifCond .eq 5, 3), (69, .aload_n 3, 1), (70, .areturn, 1), (71, .aload_n 3, 1), (72, .getfield 177, 3), (75, .dup, 1), (76, .astore 4, 2), (78, .ifnull 70, 3), (81, .aload_n 3, 1), (82, .instanceof 180, 3), (85, .ifCond .eq 14, 3), (88, .aload_n 3, 1), (89, .checkcast 180, 3), (92, .iload 6, 2), (94, .aload_n 1, 1), (95, .invokevirtual 182, 3), (98, .areturn, 1), (99, .aload 4, 2), (101, .getfield 168, 3), (104, .iload 6, 2), (106, .if_icmp .ne 31, 3), (109, .aload 4, 2), (111, .getfield 170, 3), (114, .dup, 1), (115, .astore 7, 2), (117, .aload_n 1, 1), (118, .if_acmp .eq 16, 3), (121, .aload_n 1, 1), (122, .ifnull 15, 3), (125, .aload_n 1, 1), (126, .aload 7, 2), (128, .invokevirtual 173, 3), (131, .ifCond .eq 6, 3), (134, .aload 4, 2), (136, .areturn, 1), (137, .aload 4, 2), (139, .getfield 177, 3), (142, .dup, 1), (143, .astore 4, 2), (145, .ifnonnull (-46), 3), (148, .aconst_null, 1), (149, .areturn, 1)] := by decide +kernel
theorem jv : parseMethodDescriptor "(Ljava/lang/Object;)Z" = some ⟨[(.object "java/lang/Object")], some .boolean⟩ := by decide +kernel
theorem jeU (m : MethodId) (x0 : Addr) (x1 : Addr) : entryFrame m #[(.ref x0), (.ref x1)] 8 = mkF m 0 #[(oR x0), (oR x1), ou, ou, ou, ou, ou, ou] [] := by first | (simp [entryFrame, mkF, argsToLocals, Value.category]; done) | rfl
def jiD (Z : State) (hm : Addr) (ps : Addr) (cz cc : Int32) (tb : Addr) (kt : ClassId) (tvs : List Value) (nd ks vl : Addr) (h0 : Heap) (n0 : Nat) (v : Option Value) (h : Heap) (L : List Loc) : Prop := v = some (.ref nd) ∧ Fr n0 L ∧ Keep h0 h [ps] ∧ jn Z n0 h ps cc ∧ Sta Z h S2' S26' "Z" (.int cz)
theorem jgO (l : Launch) (Z : State) (a0 : Array Value) (hw : oH a0 Z) (ws : List Jvm.Cond) (hm : Addr) (ps : Addr) (cz cc : Int32) (tb : Addr) (kt : ClassId) (tvs : List Value) (nd ks vl : Addr) (h0 : Heap) (n0 : Nat) (Z0 : n0 ≤ h0.size) (Sc0 : Sta Z h0 S2' S26' "Z" (.int cz)) (hcz : ¬ cz = (0 : Int32)) (HS0 : jn Z n0 h0 ps cc) (hcc : jaL cc) (Em0 : Exa Z h0 hm S1') (Ft0 : Fld Z h0 hm S1' S22' S16' (.ref tb)) (Et0 : Exa Z h0 tb S16') (Vt0 : Arv Z h0 tb kt (.object S5') (16 : Int32) tvs .null) (hnd : tvs.getD ((15 : Int32) &&& cc).toNatClampNeg .null = .ref nd) (En0 : Exa Z h0 nd S5') (Fnh : Fld Z h0 nd S5' "hash" "I" (.int cc)) (Fnk : Fld Z h0 nd S5' "key" S9' (.ref ks)) (HK0 : jn Z n0 h0 ks cc) (Fnv : Fld Z h0 nd S5' S21' S9' (.ref vl)) :
  ji l Z (⟨S1', "getNode", "(Ljava/lang/Object;)Ljava/util/HashMap$Node;"⟩ : MethodName) jdk_69_method_13_code 8 (some (.object S5')) ws ({ frames := 3, cells := 0, slots := 0, locals := 40 } : Room) #[(.ref hm), (.ref ps)] h0 (jiD Z hm ps cz cc tb kt tvs nd ks vl h0 n0) := by
 refine jb (plainFor_of_name jp) (fun m => jeU m hm ps) ?_
 intro p e s m below meth c s₁ Bd hx hby hml hown hZ X0 e0 Pf hPf
 have N0 := Fr.nil n0
 have dd := oD69_13j.hb hby
 have ow33 := ow hw 33 rfl
 have ow120 := ow hw 120 rfl
 have ow203 := ow hw 203 rfl
 have ow334 := ow hw 334 rfl
 have ow335 := ow hw 335 rfl
 have ow336 := ow hw 336 rfl
 have ow360 := ow hw 360 rfl
 have ow455 := ow hw 455 rfl
 have ow456 := ow hw 456 rfl
 have ow457 := ow hw 457 rfl
 have ow458 := ow hw 458 rfl
 have ow460 := ow hw 460 rfl
 have ow461 := ow hw 461 rfl
 have ow462 := ow hw 462 rfl
 refine ja (A := oW p e below s₁ (jaO m 1 (oR hm) (oR ps) ou ou ou ou ou ou [(.ref hm)])) (fun t k => by
  refine XS.aloadN X0.here hx rfl (dd 0 rfl) rfl rfl ?_
  exact k) ?_
 obtain ⟨T1, X1, e1, st1⟩ := getF X0 hx hZ hown (host := "") (Or.inl ow360) Via.refl e0 Ft0 (g := (jaO m 1 (oR hm) (oR ps) ou ou ou ou ou ou [(.ref hm)])) rfl rfl (dd 1 rfl)
 refine ja st1 ?_
 refine ja (A := oW p e below T1 (jaO m 23 (oR hm) (oR ps) (oR tb) ou ou (oi 16) ou ou [(.ref ps), (.int 15), (.ref tb)])) (fun t k => by
  refine XS.dup X1.here hx rfl (dd 2 rfl) rfl rfl ?_
  refine XS.astoreN X1.here hx rfl (dd 3 rfl) rfl rfl (l' := #[(oR hm), (oR ps), (oR tb), ou, ou, ou, ou, ou]) rfl ?_
  refine XS.ifnullNo X1.here hx rfl (dd 4 rfl) rfl ?_
  refine XS.aloadN X1.here hx rfl (dd 5 rfl) rfl rfl ?_
  show oW p e below T1 (jaO m 10 (oR hm) (oR ps) (oR tb) ou ou ou ou ou [(.ref tb)]) _
  refine jM X1 hx hZ e1 Vt0 (g := (jaO m 10 (oR hm) (oR ps) (oR tb) ou ou ou ou ou [(.ref tb)])) rfl rfl (dd 6 rfl) _ ?_
  refine XS.dup X1.here hx rfl (dd 7 rfl) rfl rfl ?_
  refine XS.istore X1.here hx rfl (dd 8 rfl) rfl (l' := #[(oR hm), (oR ps), (oR tb), ou, ou, (oi 16), ou, ou]) rfl ?_
  refine XS.ifNo X1.here hx rfl (dd 9 rfl) rfl ((if0 _ _).trans (tlt (by decide : (0 : Int32) < (16 : Int32))).2.2.2) ?_
  refine XS.aloadN X1.here hx rfl (dd 10 rfl) rfl rfl ?_
  show oW p e below T1 (jaO m 18 (oR hm) (oR ps) (oR tb) ou ou (oi 16) ou ou [(.ref tb)]) _
  refine XS.iload X1.here hx rfl (dd 11 rfl) rfl ?_
  refine XS.iconst X1.here hx rfl (dd 12 rfl) ?_
  refine XS.isub X1.here hx rfl (dd 13 rfl) rfl ?_
  refine XS.aloadN X1.here hx rfl (dd 14 rfl) rfl rfl ?_
  exact k) ?_
 obtain ⟨_, T2, L2, X2, hQ2, st2⟩ := jH X1 hx hZ hown ow334 ow335 ow336 ow120 (jcG l Z a0 hw [] ps cz cc h0 n0 Z0 Sc0 hcz HS0 hcc) e1 (by decide) (g := (jaO m 23 (oR hm) (oR ps) (oR tb) ou ou (oi 16) ou ou [(.ref ps), (.int 15), (.ref tb)])) rfl (by rw [hml]; rfl) (rest := [(.int 15), (.ref tb)]) rfl (lenOf jad rfl) rfl (W := 2) (Nat.le_of_eq rfl) (dd 15 rfl) (by decide)
 obtain ⟨rfl, N2q, K2q, p2_0, p2_1⟩ := hQ2
 have N2 := Fr.app N0 N2q
 have f2_4 := Ft0.keep K2q (ninS (Exa.ne Em0 HS0.2.1 (by decide)) nin0)
 have f2_6 := Vt0.keep K2q (ninS (Exa.ne Et0 HS0.2.1 (by decide)) nin0)
 have f2_8 := Fnh.keep K2q (ninS (Exa.ne En0 HS0.2.1 (by decide)) nin0)
 have f2_9 := Fnk.keep K2q (ninS (Exa.ne En0 HS0.2.1 (by decide)) nin0)
 have f2_10 : jn Z n0 T2.heap ks cc := HK0.keepS K2q HS0 p2_0
 have f2_12 := Fnv.keep K2q (ninS (Exa.ne En0 HS0.2.1 (by decide)) nin0)
 have Z2 : n0 ≤ T2.heap.size := Nat.le_trans Z0 K2q.1
 have K2 : Keep h0 T2.heap [ps] := (Keep.refl h0 [ps]).trans K2q (allS (Or.inl (List.mem_of_getElem? (i := 0) rfl)) all0)
 refine ja st2 ?_
 refine ja (A := oW p e below T2 (jaO m 37 (oR hm) (oR ps) (oR tb) (oR nd) ou (oi 16) (oi cc) ou [(.ref nd)])) (fun t k => by
  refine XS.dup X2.here hx rfl (dd 16 rfl) rfl rfl ?_
  show oW p e below T2 (jaO m 27 (oR hm) (oR ps) (oR tb) ou ou (oi 16) ou ou [(.int cc), (.int cc), (.int 15), (.ref tb)]) _
  refine XS.istore X2.here hx rfl (dd 17 rfl) rfl (l' := #[(oR hm), (oR ps), (oR tb), ou, ou, (oi 16), (oi cc), ou]) rfl ?_
  refine XS.iand X2.here hx rfl (dd 18 rfl) rfl ?_
  refine jbA X2 hx hZ rfl f2_6 (jep hcc) (v := (.ref nd)) hnd (g := (jaO m 30 (oR hm) (oR ps) (oR tb) ou ou (oi 16) (oi cc) ou [(.int ((15 : Int32) &&& cc)), (.ref tb)])) rfl rfl (dd 19 rfl) _ ?_
  refine XS.dup X2.here hx rfl (dd 20 rfl) rfl rfl ?_
  refine XS.astoreN X2.here hx rfl (dd 21 rfl) rfl rfl (l' := #[(oR hm), (oR ps), (oR tb), (oR nd), ou, (oi 16), (oi cc), ou]) rfl ?_
  show oW p e below T2 (jaO m 33 (oR hm) (oR ps) (oR tb) (oR nd) ou (oi 16) (oi cc) ou [(.ref nd)]) _
  refine XS.ifnullNo X2.here hx rfl (dd 22 rfl) rfl ?_
  refine XS.aloadN X2.here hx rfl (dd 23 rfl) rfl rfl ?_
  exact k) ?_
 obtain ⟨T3, X3, e3, st3⟩ := getF X2 hx hZ hown (host := "") (Or.inl ow455) Via.refl rfl f2_8 (g := (jaO m 37 (oR hm) (oR ps) (oR tb) (oR nd) ou (oi 16) (oi cc) ou [(.ref nd)])) rfl rfl (dd 24 rfl)
 refine ja st3 ?_
 refine ja (A := oW p e below T3 (jaO m 46 (oR hm) (oR ps) (oR tb) (oR nd) ou (oi 16) (oi cc) ou [(.ref nd)])) (fun t k => by
  refine XS.iload X3.here hx rfl (dd 25 rfl) rfl ?_
  refine XS.icmpNo X3.here hx rfl (dd 26 rfl) rfl (teq (rfl : cc = cc)).2 ?_
  refine XS.aloadN X3.here hx rfl (dd 27 rfl) rfl rfl ?_
  exact k) ?_
 obtain ⟨T4, X4, e4, st4⟩ := getF X3 hx hZ hown (host := "") (Or.inl ow456) Via.refl e3 f2_9 (g := (jaO m 46 (oR hm) (oR ps) (oR tb) (oR nd) ou (oi 16) (oi cc) ou [(.ref nd)])) rfl rfl (dd 28 rfl)
 refine ja st4 ?_
 refine ja (A := oW p e below T4 (jaO m 53 (oR hm) (oR ps) (oR tb) (oR nd) ou (oi 16) (oi cc) (oR ks) [(.ref ps), (.ref ks)])) (fun t k => by
  refine XS.dup X4.here hx rfl (dd 29 rfl) rfl rfl ?_
  refine XS.astore X4.here hx rfl (dd 30 rfl) rfl rfl (l' := #[(oR hm), (oR ps), (oR tb), (oR nd), ou, (oi 16), (oi cc), (oR ks)]) rfl ?_
  refine XS.aloadN X4.here hx rfl (dd 31 rfl) rfl rfl ?_
  exact k) ?_
 by_cases hq53_5 : ks = ps
 ·
  refine ja (A := oW p e below T4 (jaO m 70 (oR hm) (oR ps) (oR tb) (oR nd) ou (oi 16) (oi cc) (oR ks) [(.ref nd)])) (fun t k => by
   refine Jvm.RoadKit.acmp (g := (jaO m 53 (oR hm) (oR ps) (oR tb) (oR nd) ou (oi 16) (oi cc) (oR ks) [(.ref ps), (.ref ks)])) X4 hx rfl rfl rfl (pc0 := 53) (pc' := 69) (same := true) rfl (dd 32 rfl) rfl (decide_eq_true (congrArg Value.ref hq53_5)) (by decide) (by decide) ?_
   refine XS.aloadN X4.here hx rfl (dd 39 rfl) rfl rfl ?_
   exact k) ?_
  refine jE X4 hx Bd hPf (by decide) (by decide) rfl rfl rfl (dd 40 rfl) ?_
  rw [e4]
  exact ⟨rfl, N2, K2, p2_0, p2_1⟩
 ·
  refine ja (A := oW p e below T4 (jaO m 63 (oR hm) (oR ps) (oR tb) (oR nd) ou (oi 16) (oi cc) (oR ks) [(.ref ks), (.ref ps)])) (fun t k => by
   refine Jvm.RoadKit.acmp (g := (jaO m 53 (oR hm) (oR ps) (oR tb) (oR nd) ou (oi 16) (oi cc) (oR ks) [(.ref ps), (.ref ks)])) X4 hx rfl rfl rfl (pc0 := 53) (pc' := 56) (same := false) rfl (dd 32 rfl) rfl (decide_eq_false fun q => hq53_5 (Value.ref.inj q)) (by decide) (by decide) ?_
   refine XS.aloadN X4.here hx rfl (dd 33 rfl) rfl rfl ?_
   refine XS.ifnullNo X4.here hx rfl (dd 34 rfl) rfl ?_
   refine XS.aloadN X4.here hx rfl (dd 35 rfl) rfl rfl ?_
   refine XS.aload X4.here hx rfl (dd 36 rfl) rfl rfl ?_
   exact k) ?_
  obtain ⟨_, T6, L6, X6, hQ6, st6⟩ := jax X4 hx hZ hown ow457 ow458 ow460 ow461 ow462 ow33 (jgN l Z a0 hw [] ps ks cz cc T2.heap n0 Z2 p2_1 hcz p2_0 f2_10 (Ne.symm hq53_5)) e4 (jkK (args := #[]) (mvT hZ ow203) rfl) p2_0.2.1 (by decide) (g := (jaO m 63 (oR hm) (oR ps) (oR tb) (oR nd) ou (oi 16) (oi cc) (oR ks) [(.ref ks), (.ref ps)])) rfl (by rw [hml]; rfl) (rest := []) rfl (lenOf jv rfl) rfl (W := 0) (Nat.le_of_eq rfl) (dd 37 rfl) (by decide)
  obtain ⟨rfl, N6q, eh6⟩ := hQ6
  have N6 := Fr.app N2 N6q
  refine ja st6 ?_
  refine ja (A := oW p e below T6 (jaO m 70 (oR hm) (oR ps) (oR tb) (oR nd) ou (oi 16) (oi cc) (oR ks) [(.ref nd)])) (fun t k => by
   refine XS.ifNo X6.here hx rfl (dd 38 rfl) rfl ((if0 _ _).trans (feq (by decide : ¬ ((1 : Int32) = (0 : Int32)))).1) ?_
   refine XS.aloadN X6.here hx rfl (dd 39 rfl) rfl rfl ?_
   exact k) ?_
  refine jE X6 hx Bd hPf (by decide) (by decide) rfl rfl rfl (dd 40 rfl) ?_
  rw [eh6]
  exact ⟨rfl, N6, K2, p2_0, p2_1⟩
abbrev jeq (m : MethodId) (pc : Nat) (a0 a1 a2 a3 : Slot) (S : List Value) : JFrame := mkF m pc #[a0, a1, a2, a3] S
theorem oD69_30j : oDec jdk_69_method_30_code [(0, .aload_n 0, 1), (1, .aload_n 1, 1), (2, .invokevirtual 158, 3), (5, .dup, 1), (6, .astore_n 3, 1), (7, .ifnonnull 7, 3), (10, .aload_n 2, 1), (11, .goto 7, 3), (14, .aload_n 3, 1), (15, .getfield 162, 3), (18, .areturn, 1)] := by decide +kernel
theorem jae : parseMethodDescriptor "(Ljava/lang/Object;)Ljava/util/HashMap$Node;" = some ⟨[(.object "java/lang/Object")], some (.object "java/util/HashMap$Node")⟩ := by decide +kernel
theorem jer (m : MethodId) (x0 : Addr) (x1 : Addr) (x2 : Addr) : entryFrame m #[(.ref x0), (.ref x1), (.ref x2)] 4 = mkF m 0 #[(oR x0), (oR x1), (oR x2), ou] [] := by first | (simp [entryFrame, mkF, argsToLocals, Value.category]; done) | rfl
def jiE (Z : State) (hm : Addr) (ps : Addr) (df : Addr) (cz cc : Int32) (tb : Addr) (kt : ClassId) (tvs : List Value) (nd ks vl : Addr) (h0 : Heap) (n0 : Nat) (v : Option Value) (h : Heap) (L : List Loc) : Prop := v = some (.ref vl) ∧ Fr n0 L ∧ Keep h0 h [ps] ∧ jn Z n0 h ps cc ∧ Sta Z h S2' S26' "Z" (.int cz)
theorem jgP (l : Launch) (Z : State) (a0 : Array Value) (hw : oH a0 Z) (ws : List Jvm.Cond) (hm : Addr) (ps : Addr) (df : Addr) (cz cc : Int32) (tb : Addr) (kt : ClassId) (tvs : List Value) (nd ks vl : Addr) (h0 : Heap) (n0 : Nat) (Z0 : n0 ≤ h0.size) (Sc0 : Sta Z h0 S2' S26' "Z" (.int cz)) (hcz : ¬ cz = (0 : Int32)) (HS0 : jn Z n0 h0 ps cc) (hcc : jaL cc) (Em0 : Exa Z h0 hm S1') (Ft0 : Fld Z h0 hm S1' S22' S16' (.ref tb)) (Et0 : Exa Z h0 tb S16') (Vt0 : Arv Z h0 tb kt (.object S5') (16 : Int32) tvs .null) (hnd : tvs.getD ((15 : Int32) &&& cc).toNatClampNeg .null = .ref nd) (En0 : Exa Z h0 nd S5') (Fnh : Fld Z h0 nd S5' "hash" "I" (.int cc)) (Fnk : Fld Z h0 nd S5' "key" S9' (.ref ks)) (HK0 : jn Z n0 h0 ks cc) (Fnv : Fld Z h0 nd S5' S21' S9' (.ref vl)) :
  ji l Z (⟨S1', "getOrDefault", S62'⟩ : MethodName) jdk_69_method_30_code 4 (some (.object S0')) ws ({ frames := 4, cells := 0, slots := 0, locals := 59 } : Room) #[(.ref hm), (.ref ps), (.ref df)] h0 (jiE Z hm ps df cz cc tb kt tvs nd ks vl h0 n0) := by
 refine jb (plainFor_of_name jp) (fun m => jer m hm ps df) ?_
 intro p e s m below meth c s₁ Bd hx hby hml hown hZ X0 e0 Pf hPf
 have N0 := Fr.nil n0
 have dd := oD69_30j.hb hby
 have ow120 := ow hw 120 rfl
 have ow450 := ow hw 450 rfl
 have ow451 := ow hw 451 rfl
 have ow452 := ow hw 452 rfl
 have ow453 := ow hw 453 rfl
 have ow454 := ow hw 454 rfl
 have ow466 := ow hw 466 rfl
 refine ja (A := oW p e below s₁ (jeq m 2 (oR hm) (oR ps) (oR df) ou [(.ref ps), (.ref hm)])) (fun t k => by
  refine XS.aloadN X0.here hx rfl (dd 0 rfl) rfl rfl ?_
  refine XS.aloadN X0.here hx rfl (dd 1 rfl) rfl rfl ?_
  exact k) ?_
 obtain ⟨_, T1, L1, X1, hQ1, st1⟩ := jax X0 hx hZ hown ow450 ow451 ow453 ow452 ow454 ow120 (jgO l Z a0 hw [] hm ps cz cc tb kt tvs nd ks vl h0 n0 Z0 Sc0 hcz HS0 hcc Em0 Ft0 Et0 Vt0 hnd En0 Fnh Fnk HK0 Fnv) e0 (notFace_of_selects (args := #[]) (mvT hZ ow453)) Em0 (by decide) (g := (jeq m 2 (oR hm) (oR ps) (oR df) ou [(.ref ps), (.ref hm)])) rfl (by rw [hml]; rfl) (rest := []) rfl (lenOf jae rfl) rfl (W := 0) (Nat.le_of_eq rfl) (dd 2 rfl) (by decide)
 obtain ⟨rfl, N1q, K1q, p1_0, p1_1⟩ := hQ1
 have N1 := Fr.app N0 N1q
 have f1_4 := Ft0.keep K1q (ninS (Exa.ne Em0 HS0.2.1 (by decide)) nin0)
 have f1_6 := Vt0.keep K1q (ninS (Exa.ne Et0 HS0.2.1 (by decide)) nin0)
 have f1_8 := Fnh.keep K1q (ninS (Exa.ne En0 HS0.2.1 (by decide)) nin0)
 have f1_9 := Fnk.keep K1q (ninS (Exa.ne En0 HS0.2.1 (by decide)) nin0)
 have f1_10 : jn Z n0 T1.heap ks cc := HK0.keepS K1q HS0 p1_0
 have f1_12 := Fnv.keep K1q (ninS (Exa.ne En0 HS0.2.1 (by decide)) nin0)
 have Z1 : n0 ≤ T1.heap.size := Nat.le_trans Z0 K1q.1
 have K1 : Keep h0 T1.heap [ps] := (Keep.refl h0 [ps]).trans K1q (allS (Or.inl (List.mem_of_getElem? (i := 0) rfl)) all0)
 refine ja st1 ?_
 refine ja (A := oW p e below T1 (jeq m 15 (oR hm) (oR ps) (oR df) (oR nd) [(.ref nd)])) (fun t k => by
  refine XS.dup X1.here hx rfl (dd 3 rfl) rfl rfl ?_
  refine XS.astoreN X1.here hx rfl (dd 4 rfl) rfl rfl (l' := #[(oR hm), (oR ps), (oR df), (oR nd)]) rfl ?_
  refine XS.ifnonnullYes X1.here hx rfl (pc0 := 7) (pc' := 14) rfl (dd 5 rfl) rfl (by decide) (by decide) ?_
  show oW p e below T1 (jeq m 14 (oR hm) (oR ps) (oR df) (oR nd) []) _
  refine XS.aloadN X1.here hx rfl (dd 8 rfl) rfl rfl ?_
  exact k) ?_
 obtain ⟨T2, X2, e2, st2⟩ := getF X1 hx hZ hown (host := "") (Or.inl ow466) Via.refl rfl f1_12 (g := (jeq m 15 (oR hm) (oR ps) (oR df) (oR nd) [(.ref nd)])) rfl rfl (dd 9 rfl)
 refine ja st2 ?_
 refine jE X2 hx Bd hPf (by decide) (by decide) rfl rfl rfl (dd 10 rfl) ?_
 rw [e2]
 exact ⟨rfl, N1, K1, p1_0, p1_1⟩
def jdG (Z : State) (n0 : Nat) (h : Heap) (tvs : List Value) (w : Int32) : Prop := ∃ nd ks vl, tvs.getD ((15 : Int32) &&& ((97 : Int32) + w)).toNatClampNeg .null = .ref nd ∧ Exa Z h nd S5' ∧ Fld Z h nd S5' "hash" "I" (.int ((97 : Int32) + w)) ∧ Fld Z h nd S5' "key" S9' (.ref ks) ∧ jn Z n0 h ks ((97 : Int32) + w) ∧ Fld Z h nd S5' S21' S9' (.ref vl) ∧ jaW Z h vl w
def jbl (Z : State) (n0 : Nat) (h : Heap) (hm : Addr) (kk : Int32) : Prop := ∃ tb kt tvs, Exa Z h hm S1' ∧ Fld Z h hm S1' S22' S16' (.ref tb) ∧ Exa Z h tb S16' ∧ Arv Z h tb kt (.object S5') 16 tvs .null ∧ ∀ w, jaf w → w < kk → jdG Z n0 h tvs w
theorem jbC {Z : State} {h : Heap} {ws : List Addr} {L M : List String} (N : ∀ x ∈ ws, jab Z h x L) (q : ∀ y ∈ M, y ∈ L) : ∀ x ∈ ws, jab Z h x M := fun x hx => by
 obtain ⟨C, e, hC⟩ := N x hx; exact ⟨C, e, fun z => hC (q _ z)⟩
theorem jbl.ext {Z : State} {n0 : Nat} {h h' : Heap} {hm : Addr} {kk : Int32} (M : jbl Z n0 h hm kk) (E : Ext h h') : jbl Z n0 h' hm kk := by
 obtain ⟨tb, kt, tvs, e1, f1, e2, v, H⟩ := M
 refine ⟨tb, kt, tvs, e1.ext E, f1.ext E, e2.ext E, v.ext E, fun w a b => ?_⟩
 obtain ⟨nd, ks, vl, q, e3, f2, f3, s, f4, bx⟩ := H w a b
 exact ⟨nd, ks, vl, q, e3.ext E, f2.ext E, f3.ext E, s.ext E, f4.ext E, bx.ext E⟩
theorem jbl.keep {Z : State} {n0 : Nat} {h h' : Heap} {hm : Addr} {kk : Int32} {ws : List Addr} (M : jbl Z n0 h hm kk) (K : Keep h h' ws) (N : ∀ x ∈ ws, jab Z h x [S2', "[B", S35', S37', S1', S16', S5']) : jbl Z n0 h' hm kk := by
 obtain ⟨tb, kt, tvs, e1, f1, e2, v, H⟩ := M
 refine ⟨tb, kt, tvs, e1.keep K, f1.keep K (jV N e1 (by simp)), e2.keep K, v.keep K (jV N e2 (by simp)), fun w a b => ?_⟩
 obtain ⟨nd, ks, vl, q, e3, f2, f3, s, f4, bx⟩ := H w a b
 have nn := jV N e3 (by simp)
 exact ⟨nd, ks, vl, q, e3.keep K, f2.keep K nn, f3.keep K nn, s.keep K (jbC N (by simp)), f4.keep K nn, bx.keep K (jbC N (by simp))⟩
theorem jbl.keepS {Z : State} {n0 : Nat} {h h' : Heap} {hm x : Addr} {kk d : Int32} (M : jbl Z n0 h hm kk) (K : Keep h h' [x]) (S0 : jn Z n0 h x d) (S1 : jn Z n0 h' x d) : jbl Z n0 h' hm kk := by
 obtain ⟨tb, kt, tvs, e1, f1, e2, v, H⟩ := M
 have ne : ∀ {y : Addr} {D : String}, Exa Z h y D → D ≠ S2' → y ∉ [x] := fun e q => ninS (Exa.ne e S0.2.1 q) nin0
 refine ⟨tb, kt, tvs, e1.keep K, f1.keep K (ne e1 (by decide)), e2.keep K, v.keep K (ne e2 (by decide)), fun w a b => ?_⟩
 obtain ⟨nd, ks, vl, q, e3, f2, f3, s, f4, bx⟩ := H w a b
 have nn := ne e3 (by decide)
 exact ⟨nd, ks, vl, q, e3.keep K, f2.keep K nn, f3.keep K nn, s.keepS K S0 S1, f4.keep K nn, bx.keep K (allS ⟨_, S0.2.1, by decide⟩ all0)⟩
abbrev jcH (m : MethodId) (pc : Nat) (a0 a1 : Slot) (S : List Value) : JFrame := mkF m pc #[a0, a1] S
theorem oD42_5p : oDec prog_42_method_5_code [(0, .aload_n 0, 1), (1, .getfield 10, 3), (4, .aload_n 1, 1), (5, .iconst (-1), 1), (6, .invokestatic 66, 3), (9, .invokeinterface 187 3, 5), (14, .checkcast 67, 3), (17, .invokevirtual 190, 3), (20, .ireturn, 1)] := by decide +kernel
theorem jal : parseMethodDescriptor "(I)Ljava/lang/Integer;" = some ⟨[.int], some (.object "java/lang/Integer")⟩ := by decide +kernel
theorem jB : parseMethodDescriptor "(Ljava/lang/Object;Ljava/lang/Object;)Ljava/lang/Object;" = some ⟨[(.object "java/lang/Object"), (.object "java/lang/Object")], some (.object "java/lang/Object")⟩ := by decide +kernel
def jgQ (Z : State) (tt : Addr) (ps : Addr) (cz kk pw : Int32) (hm ca : Addr) (h0 : Heap) (n0 : Nat) (v : Option Value) (h : Heap) (L : List Loc) : Prop := v = some (.int pw) ∧ Fr n0 L ∧ Keep h0 h [ps] ∧ jn Z n0 h ps ((97 : Int32) + pw) ∧ Sta Z h S2' S26' "Z" (.int cz)
theorem jJ : plainName "com/example/fimpl/fimpl/device/TileType" = true := by first | (simp [plainName, overriddenIn]; done) | decide +kernel
theorem jdp (l : Launch) (Z : State) (a0 : Array Value) (hw : oH a0 Z) (ws : List Jvm.Cond) (tt : Addr) (ps : Addr) (cz kk pw : Int32) (hm ca : Addr) (h0 : Heap) (n0 : Nat) (Z0 : n0 ≤ h0.size) (Sc0 : Sta Z h0 S2' S26' "Z" (.int cz)) (hcz : ¬ cz = (0 : Int32)) (Ett : Exa Z h0 tt S7') (Fwn : Fld Z h0 tt S7' S42' S43' (.ref hm)) (HM0 : jbl Z n0 h0 hm kk) (HS0 : jn Z n0 h0 ps ((97 : Int32) + pw)) (hw3 : jaf pw) (hlt : pw < kk) (HI0 : jcd Z h0 ca) :
  ji l Z (⟨S7', "wire", "(Ljava/lang/String;)I"⟩ : MethodName) prog_42_method_5_code 2 (some .int) ws ({ frames := 5, cells := 0, slots := 0, locals := 74 } : Room) #[(.ref tt), (.ref ps)] h0 (jgQ Z tt ps cz kk pw hm ca h0 n0) := by
 refine jb (plainFor_of_name jJ) (fun m => jar m tt ps) ?_
 intro p e s m below meth c s₁ Bd hx hby hml hown hZ X0 e0 Pf hPf
 have N0 := Fr.nil n0
 have dd := oD42_5p.hb hby
 have ow120 := ow hw 120 rfl
 have ow134 := ow hw 134 rfl
 have ow315 := ow hw 315 rfl
 have ow319 := ow hw 319 rfl
 have ow320 := ow hw 320 rfl
 have ow321 := ow hw 321 rfl
 have ow322 := ow hw 322 rfl
 have ow442 := ow hw 442 rfl
 have ow443 := ow hw 443 rfl
 have ow444 := ow hw 444 rfl
 have ow445 := ow hw 445 rfl
 have ow446 := ow hw 446 rfl
 have ow447 := ow hw 447 rfl
 have ow448 := ow hw 448 rfl
 have ow449 := ow hw 449 rfl
 have ow467 := ow hw 467 rfl
 have ow469 := ow hw 469 rfl
 have ow470 := ow hw 470 rfl
 have ow471 := ow hw 471 rfl
 have ow472 := ow hw 472 rfl
 have ow473 := ow hw 473 rfl
 have hcc := jdS hw3
 obtain ⟨tb, kt, tvs, Em0, Ft0, Et0, Vt0, HMn⟩ := id HM0
 obtain ⟨nd, ks, vl, hnd, En0, Fnh, Fnk, HK0, Fnv, HBv⟩ := HMn pw hw3 hlt
 have hpw : pw = -1 ∨ jaf pw := Or.inr hw3
 have hcc := jdS hw3
 obtain ⟨tb, kt, tvs, Em0, Ft0, Et0, Vt0, HMn⟩ := id HM0
 obtain ⟨nd, ks, vl, hnd, En0, Fnh, Fnk, HK0, Fnv, HBv⟩ := HMn pw hw3 hlt
 have hpw : pw = -1 ∨ jaf pw := Or.inr hw3
 refine ja (A := oW p e below s₁ (jcH m 1 (oR tt) (oR ps) [(.ref tt)])) (fun t k => by
  refine XS.aloadN X0.here hx rfl (dd 0 rfl) rfl rfl ?_
  exact k) ?_
 obtain ⟨T1, X1, e1, st1⟩ := getF X0 hx hZ hown (host := "") (Or.inl ow134) Via.refl e0 Fwn (g := (jcH m 1 (oR tt) (oR ps) [(.ref tt)])) rfl rfl (dd 1 rfl)
 refine ja st1 ?_
 refine ja (A := oW p e below T1 (jcH m 6 (oR tt) (oR ps) [(.int (-1)), (.ref ps), (.ref hm)])) (fun t k => by
  refine XS.aloadN X1.here hx rfl (dd 2 rfl) rfl rfl ?_
  refine XS.iconst X1.here hx rfl (dd 3 rfl) ?_
  exact k) ?_
 obtain ⟨_, T2, L2, X2, hQ2, st2⟩ := jH X1 hx hZ hown ow319 ow320 ow322 ow321 (jdF l Z a0 hw [] (-1 : Int32) ca h0 n0 Z0 HI0 (Or.inl rfl)) e1 (by decide) (g := (jcH m 6 (oR tt) (oR ps) [(.int (-1)), (.ref ps), (.ref hm)])) rfl (by rw [hml]; rfl) (rest := [(.ref ps), (.ref hm)]) rfl (lenOf jal rfl) rfl (W := 2) (Nat.le_of_eq rfl) (dd 4 rfl) (by decide)
 obtain ⟨x2b, rfl, N2q, eh2, p2_0⟩ := hQ2
 have N2 := Fr.app N0 N2q
 rw [eh2] at p2_0
 refine ja st2 ?_
 obtain ⟨_, T3, L3, X3, hQ3, st3⟩ := jaI X2 hx hZ hown ow442 ow443 ow445 ow446 (mvT hZ ow444) ow447 ow448 ow315 ow449 ow120 (jgP l Z a0 hw [] hm ps x2b cz ((97 : Int32) + pw) tb kt tvs nd ks vl h0 n0 Z0 Sc0 hcz HS0 hcc Em0 Ft0 Et0 Vt0 hnd En0 Fnh Fnk HK0 Fnv) eh2 Em0 (by decide) (g := (jcH m 9 (oR tt) (oR ps) [(.ref x2b), (.ref ps), (.ref hm)])) rfl (by rw [hml]; rfl) (rest := []) rfl (lenOf jB rfl) rfl (W := 0) (Nat.le_of_eq rfl) (dd 5 rfl) (by decide)
 obtain ⟨rfl, N3q, K3q, p3_0, p3_1⟩ := hQ3
 have N3 := Fr.app N2 N3q
 have f3_4 := Ft0.keep K3q (ninS (Exa.ne Em0 HS0.2.1 (by decide)) nin0)
 have f3_6 := Vt0.keep K3q (ninS (Exa.ne Et0 HS0.2.1 (by decide)) nin0)
 have f3_8 := Fnh.keep K3q (ninS (Exa.ne En0 HS0.2.1 (by decide)) nin0)
 have f3_9 := Fnk.keep K3q (ninS (Exa.ne En0 HS0.2.1 (by decide)) nin0)
 have f3_10 : jn Z n0 T3.heap ks ((97 : Int32) + pw) := HK0.keepS K3q HS0 p3_0
 have f3_12 := Fnv.keep K3q (ninS (Exa.ne En0 HS0.2.1 (by decide)) nin0)
 have f3_14 := Fwn.keep K3q (ninS (Exa.ne Ett HS0.2.1 (by decide)) nin0)
 have f3_15 : jcd Z T3.heap ca := HI0.keep K3q (allS ⟨_, HS0.2.1, by decide⟩ all0)
 have f3_16 : jaW Z T3.heap vl pw := HBv.keep K3q (allS ⟨_, HS0.2.1, by decide⟩ all0)
 have f3_18 : jaW Z T3.heap x2b (-1 : Int32) := p2_0.keep K3q (allS ⟨_, HS0.2.1, by decide⟩ all0)
 have Z3 : n0 ≤ T3.heap.size := Nat.le_trans Z0 K3q.1
 have K3 : Keep h0 T3.heap [ps] := (Keep.refl h0 [ps]).trans K3q (allS (Or.inl (List.mem_of_getElem? (i := 0) rfl)) all0)
 refine ja st3 ?_
 obtain ⟨T4, X4, e4, st4⟩ := castY X3 hx hZ hown ow467 rfl (Ins.self (HBv.1.keep K3q)) (g := (jcH m 14 (oR tt) (oR ps) [(.ref vl)])) rfl rfl (dd 6 rfl)
 refine ja st4 ?_
 obtain ⟨_, T5, L5, X5, hQ5, st5⟩ := jax X4 hx hZ hown ow469 ow470 ow472 ow471 ow473 ow321 (jgL l Z a0 hw [] vl pw T3.heap n0 Z3 f3_16) e4 (notFace_of_selects (args := #[]) (mvT hZ ow472)) (HBv.1.keep K3q) (by decide) (g := (jcH m 17 (oR tt) (oR ps) [(.ref vl)])) rfl (by rw [hml]; rfl) (rest := []) rfl (lenOf jag rfl) rfl (W := 0) (Nat.le_of_eq rfl) (dd 7 rfl) (by decide)
 obtain ⟨rfl, N5q, eh5⟩ := hQ5
 have N5 := Fr.app N3 N5q
 refine ja st5 ?_
 refine jaD X5 hx Bd hPf (by decide) (by decide) (dd 8 rfl) ?_
 rw [eh5]
 exact ⟨rfl, N5, K3, p3_0, p3_1⟩
theorem jly {w : Int32} (h : jaf w) : w >>> ((6 : Int32) &&& 31) = 0 := by rcases h with rfl | rfl | rfl <;> rfl
theorem jiF {w : Int32} (h : jaf w) : ¬ w < 0 := by rcases h with rfl | rfl | rfl <;> decide
abbrev jlz (m : MethodId) (pc : Nat) (a0 : Slot) (S : List Value) : JFrame := mkF m pc #[a0] S
theorem oD92_1j : oDec jdk_92_method_1_code [(0, .iload_n 0, 1), (1, .bipush 6, 2), (3, .ishr, 1), (4, .ireturn, 1)] := by decide +kernel
def jiG (Z : State) (pi : Int32)  (h0 : Heap) (n0 : Nat) (v : Option Value) (h : Heap) (L : List Loc) : Prop := v = some (.int 0) ∧ Fr n0 L ∧ h = h0
theorem jO : plainName "java/util/BitSet" = true := by first | (simp [plainName, overriddenIn]; done) | decide +kernel
theorem jdH (l : Launch) (Z : State) (a0 : Array Value) (hw : oH a0 Z) (ws : List Jvm.Cond) (pi : Int32)  (h0 : Heap) (n0 : Nat) (Z0 : n0 ≤ h0.size) (hwi : pi >>> ((6 : Int32) &&& 31) = 0) :
  ji l Z (⟨S10', "wordIndex", "(I)I"⟩ : MethodName) jdk_92_method_1_code 1 (some .int) ws ({ frames := 0, cells := 0, slots := 0, locals := 0 } : Room) #[(.int pi)] h0 (jiG Z pi h0 n0) := by
 refine jb (plainFor_of_name jO) (fun m => jbx m pi) ?_
 intro p e s m below meth c s₁ Bd hx hby hml hown hZ X0 e0 Pf hPf
 have N0 := Fr.nil n0
 have dd := oD92_1j.hb hby
 refine ja (A := oW p e below s₁ (jlz m 4 (oi pi) [(.int (pi >>> ((6 : Int32) &&& 31)))])) (fun t k => by
  refine XS.iloadN X0.here hx rfl (dd 0 rfl) rfl ?_
  refine XS.bipush X0.here hx rfl (dd 1 rfl) ?_
  refine XS.ishr X0.here hx rfl (dd 2 rfl) rfl ?_
  exact k) ?_
 refine jaD X0 hx Bd hPf (by decide) (by decide) (dd 3 rfl) ?_
 rw [e0]
 exact ⟨by rw [hwi], N0, rfl⟩
abbrev jdI (m : MethodId) (pc : Nat) (a0 a1 : Slot) (S : List Value) : JFrame := mkF m pc #[a0, a1] S
theorem oD92_6j : oDec jdk_92_method_6_code [(0, .aload_n 0, 1), (1, .iload_n 1, 1), (2, .iconst 1, 1), (3, .isub, 1), (4, .invokestatic 52, 3), (7, .iconst 1, 1), (8, .iadd, 1), (9, .newarray .long, 2), (11, .putfield 11, 3), (14, .return_, 1)] := by decide +kernel
theorem jcP : parseMethodDescriptor "(I)I" = some ⟨[.int], some .int⟩ := by decide +kernel
theorem jkb {a0 : Array Value} {Z : State} (hw : oH a0 Z) : jc Z S10' S32' "I" ≠ jc Z S10' "words" "[J" := jg (C := S10') (Or.inl (ow hw 144 rfl)) (Or.inl (ow hw 157 rfl)) (by decide) rfl rfl
theorem jkc {a0 : Array Value} {Z : State} (hw : oH a0 Z) : jc Z S10' S33' "Z" ≠ jc Z S10' "words" "[J" := jg (C := S10') (Or.inl (ow hw 146 rfl)) (Or.inl (ow hw 157 rfl)) (by decide) rfl rfl
def jiH (Z : State) (bs : Addr)  (h0 : Heap) (n0 : Nat) (v : Option Value) (h : Heap) (L : List Loc) : Prop := ∃ (wa : Addr) (kw : ClassId), v = none ∧ Fr n0 L ∧ Keep h0 h [bs] ∧ h0.size ≤ wa ∧ Exa Z h wa "[J" ∧ Arv Z h wa kw .long (1 : Int32) [(.long 0)] (.long 0) ∧ Fld Z h bs S10' "words" "[J" (.ref wa) ∧ Fld Z h bs S10' S32' "I" (.int 0) ∧ Fld Z h bs S10' S33' "Z" (.int 0)
theorem jgR (l : Launch) (Z : State) (a0 : Array Value) (hw : oH a0 Z) (ws : List Jvm.Cond) (bs : Addr)  (h0 : Heap) (n0 : Nat) (Z0 : n0 ≤ h0.size) (Eb0 : Exa Z h0 bs S10') (g_bs : n0 ≤ bs) (Fb0 : Fld Z h0 bs S10' "words" "[J" .null) (Fb1 : Fld Z h0 bs S10' S32' "I" (.int 0)) (Fb2 : Fld Z h0 bs S10' S33' "Z" (.int 0)) :
  ji l Z (⟨S10', "initWords", "(I)V"⟩ : MethodName) jdk_92_method_6_code 2 none ws ({ frames := 1, cells := 1, slots := 1, locals := 13 } : Room) #[(.ref bs), (.int 64)] h0 (jiH Z bs h0 n0) := by
 refine jb (plainFor_of_name jO) (fun m => jas m bs (64 : Int32)) ?_
 intro p e s m below meth c s₁ Bd hx hby hml hown hZ X0 e0 Pf hPf
 have N0 := Fr.nil n0
 have dd := oD92_6j.hb hby
 have ow137 := ow hw 137 rfl
 have ow138 := ow hw 138 rfl
 have ow152 := ow hw 152 rfl
 have ow153 := ow hw 153 rfl
 have ow154 := ow hw 154 rfl
 have ow155 := ow hw 155 rfl
 have ow156 := ow hw 156 rfl
 have ow157 := ow hw 157 rfl
 refine ja (A := oW p e below s₁ (jdI m 4 (oR bs) (oi 64) [(.int 63), (.ref bs)])) (fun t k => by
  refine XS.aloadN X0.here hx rfl (dd 0 rfl) rfl rfl ?_
  refine XS.iloadN X0.here hx rfl (dd 1 rfl) rfl ?_
  refine XS.iconst X0.here hx rfl (dd 2 rfl) ?_
  refine XS.isub X0.here hx rfl (dd 3 rfl) rfl ?_
  exact k) ?_
 obtain ⟨_, T1, L1, X1, hQ1, st1⟩ := jH X0 hx hZ hown ow152 ow153 ow154 ow138 (jdH l Z a0 hw [] (63 : Int32) h0 n0 Z0 (by decide)) e0 (by decide) (g := (jdI m 4 (oR bs) (oi 64) [(.int 63), (.ref bs)])) rfl (by rw [hml]; rfl) (rest := [(.ref bs)]) rfl (lenOf jcP rfl) rfl (W := 1) (Nat.le_of_eq rfl) (dd 4 rfl) (by decide)
 obtain ⟨rfl, N1q, eh1⟩ := hQ1
 have N1 := Fr.app N0 N1q
 refine ja st1 ?_
 refine ja (A := oW p e below T1 (jdI m 9 (oR bs) (oi 64) [(.int 1), (.ref bs)])) (fun t k => by
  refine XS.iconst X1.here hx rfl (dd 5 rfl) ?_
  show oW p e below T1 (jdI m 8 (oR bs) (oi 64) [(.int 1), (.int 0), (.ref bs)]) _
  refine XS.iadd X1.here hx rfl (dd 6 rfl) rfl ?_
  exact k) ?_
 obtain ⟨T2, h2, k2, X2, e2, E2, A2, Q2, st2⟩ := newPE X1 hx hZ (aty := .long) ow155 eh1 (g := (jdI m 9 (oR bs) (oi 64) [(.int 1), (.ref bs)])) rfl (dd 7 rfl) rfl (by decide) (cap := 1) (by decide) (by decide) (by decide) (by decide) (ad := "[J") (by decide)
 obtain ⟨b2, g2⟩ : ∃ z, z = h0.size := ⟨_, rfl⟩
 rw [← g2] at A2 Q2 st2
 refine ja st2 ?_
 have ne_bs_b2 : bs ≠ b2 := Nat.ne_of_lt (Nat.lt_of_lt_of_le Eb0.lt (Nat.le_of_eq g2.symm))
 have g_b2 : n0 ≤ b2 := Nat.le_trans Z0 (Nat.le_of_eq g2.symm)
 have Z2 : n0 ≤ h2.size := Nat.le_trans Z0 E2.1
 have sz_b2 : h0.size ≤ b2 := Nat.le_trans (Keep.refl h0 [bs]).1 (Nat.le_of_eq g2.symm)
 have K2 : Keep h0 h2 [bs] := (Keep.refl h0 [bs]).ext E2
 have U2 : Arv Z h2 b2 k2 .long (1 : Int32) [] (.long 0) := Arv.new A2 (by decide)
 have V2 : Arv Z h2 b2 k2 .long (1 : Int32) [(.long 0)] (.long 0) := U2.pad (pad_rep [] (.long 0) 1)
 obtain ⟨T3, h3, X3, e3, W3, st3⟩ := putF X2 hx hZ hown (host := "") (Or.inl ow156) Via.refl e2 (Fb0.ext E2) (Eb0.ext E2) (Or.inl ow157) ow137 (ty := (.array .long)) (by decide) rfl rfl (g := (jdI m 11 (oR bs) (oi 64) [(.ref b2), (.ref bs)])) rfl rfl (dd 8 rfl)
 refine ja st3 ?_
 have f3_1 : Fld Z h3 bs S10' "words" "[J" (.ref b2) := (Fb0.ext E2).same W3
 have f3_2 := (Fb1.ext E2).other W3 (Or.inr (jkb hw))
 have f3_3 := (Fb2.ext E2).other W3 (Or.inr (jkc hw))
 have f3_4 := V2.other W3 ((Ne.symm ne_bs_b2))
 have N3 := Fr.snoc X3 N1 g_bs
 have Z3 : n0 ≤ h3.size := Nat.le_trans Z2 (Keep.of_wr W3).1
 have K3 : Keep h0 h3 [bs] := K2.wr W3 (Or.inl (List.mem_of_getElem? (i := 0) rfl))
 refine jaa X3 hx Bd hPf (by decide) (by decide) (dd 9 rfl) ?_
 rw [e3]
 exact ⟨b2, k2, rfl, N3, K3, sz_b2, (Q2.wr W3), f3_4, f3_1, f3_2, f3_3⟩
abbrev jcx (m : MethodId) (pc : Nat) (a0 : Slot) (S : List Value) : JFrame := mkF m pc #[a0] S
theorem oD92_4j : oDec jdk_92_method_4_code [(0, .aload_n 0, 1), (1, .invokespecial 21, 3), (4, .aload_n 0, 1), (5, .iconst 0, 1), (6, .putfield 7, 3), (9, .aload_n 0, 1), (10, .iconst 0, 1), (11, .putfield 24, 3), (14, .aload_n 0, 1), (15, .bipush 64, 2), (17, .invokevirtual 27, 3), (20, .aload_n 0, 1), (21, .iconst 0, 1), (22, .putfield 24, 3), (25, .return_, 1)] := by decide +kernel
theorem jfO {a0 : Array Value} {Z : State} (hw : oH a0 Z) : jc Z S10' "words" "[J" ≠ jc Z S10' S32' "I" := jg (C := S10') (Or.inl (ow hw 157 rfl)) (Or.inl (ow hw 144 rfl)) (by decide) rfl rfl
theorem jfP {a0 : Array Value} {Z : State} (hw : oH a0 Z) : jc Z S10' S33' "Z" ≠ jc Z S10' S32' "I" := jg (C := S10') (Or.inl (ow hw 146 rfl)) (Or.inl (ow hw 144 rfl)) (by decide) rfl rfl
theorem jfQ {a0 : Array Value} {Z : State} (hw : oH a0 Z) : jc Z S10' "words" "[J" ≠ jc Z S10' S33' "Z" := jg (C := S10') (Or.inl (ow hw 157 rfl)) (Or.inl (ow hw 146 rfl)) (by decide) rfl rfl
theorem jfR {a0 : Array Value} {Z : State} (hw : oH a0 Z) : jc Z S10' S32' "I" ≠ jc Z S10' S33' "Z" := jg (C := S10') (Or.inl (ow hw 144 rfl)) (Or.inl (ow hw 146 rfl)) (by decide) rfl rfl
theorem jbu : parseMethodDescriptor "(I)V" = some ⟨[.int], none⟩ := by decide +kernel
def jiI (Z : State) (bs : Addr)  (h0 : Heap) (n0 : Nat) (v : Option Value) (h : Heap) (L : List Loc) : Prop := ∃ (wa : Addr) (kw : ClassId), v = none ∧ Fr n0 L ∧ Keep h0 h [bs] ∧ h0.size ≤ wa ∧ Exa Z h wa "[J" ∧ Arv Z h wa kw .long (1 : Int32) [(.long 0)] (.long 0) ∧ Fld Z h bs S10' "words" "[J" (.ref wa) ∧ Fld Z h bs S10' S32' "I" (.int 0) ∧ Fld Z h bs S10' S33' "Z" (.int 0)
theorem jgS (l : Launch) (Z : State) (a0 : Array Value) (hw : oH a0 Z) (ws : List Jvm.Cond) (bs : Addr)  (h0 : Heap) (n0 : Nat) (Z0 : n0 ≤ h0.size) (Eb0 : Exa Z h0 bs S10') (g_bs : n0 ≤ bs) (Fb0 : Fld Z h0 bs S10' "words" "[J" .null) (Fb1 : Fld Z h0 bs S10' S32' "I" (.int 0)) (Fb2 : Fld Z h0 bs S10' S33' "Z" (.int 0)) :
  ji l Z (⟨S10', S27', "()V"⟩ : MethodName) jdk_92_method_4_code 1 none ws ({ frames := 2, cells := 1, slots := 1, locals := 26 } : Room) #[(.ref bs)] h0 (jiI Z bs h0 n0) := by
 refine jb (plainFor_of_name jO) (fun m => jr m bs) ?_
 intro p e s m below meth c s₁ Bd hx hby hml hown hZ X0 e0 Pf hPf
 have N0 := Fr.nil n0
 have dd := oD92_4j.hb hby
 have ow20 := ow hw 20 rfl
 have ow21 := ow hw 21 rfl
 have ow137 := ow hw 137 rfl
 have ow138 := ow hw 138 rfl
 have ow142 := ow hw 142 rfl
 have ow143 := ow hw 143 rfl
 have ow144 := ow hw 144 rfl
 have ow145 := ow hw 145 rfl
 have ow146 := ow hw 146 rfl
 have ow147 := ow hw 147 rfl
 have ow148 := ow hw 148 rfl
 have ow149 := ow hw 149 rfl
 have ow150 := ow hw 150 rfl
 have ow151 := ow hw 151 rfl
 refine ja (A := oW p e below s₁ (jcx m 1 (oR bs) [(.ref bs)])) (fun t k => by
  refine XS.aloadN X0.here hx rfl (dd 0 rfl) rfl rfl ?_
  exact k) ?_
 obtain ⟨T1, X1, e1, st1⟩ := initO X0 hx hZ hown ow142 ow20 ow21 e0 (g := (jcx m 1 (oR bs) [(.ref bs)])) rfl (by rw [hml]; rfl) rfl (dd 1 rfl) (by decide) (W := 0) (by show 2 * 0 + _ ≤ _; exact Nat.le_of_eq rfl) (by decide)
 refine ja st1 ?_
 refine ja (A := oW p e below T1 (jcx m 6 (oR bs) [(.int 0), (.ref bs)])) (fun t k => by
  refine XS.aloadN X1.here hx rfl (dd 2 rfl) rfl rfl ?_
  refine XS.iconst X1.here hx rfl (dd 3 rfl) ?_
  exact k) ?_
 obtain ⟨T2, h2, X2, e2, W2, st2⟩ := putF X1 hx hZ hown (host := "") (Or.inl ow143) Via.refl e1 Fb1 Eb0 (Or.inl ow144) ow137 (ty := .int) (by decide) rfl rfl (g := (jcx m 6 (oR bs) [(.int 0), (.ref bs)])) rfl rfl (dd 4 rfl)
 refine ja st2 ?_
 have f2_1 := Fb0.other W2 (Or.inr (jfO hw))
 have f2_2 : Fld Z h2 bs S10' S32' "I" (.int 0) := Fb1.same W2
 have f2_3 := Fb2.other W2 (Or.inr (jfP hw))
 have N2 := Fr.snoc X2 N0 g_bs
 have Z2 : n0 ≤ h2.size := Nat.le_trans Z0 (Keep.of_wr W2).1
 have K2 : Keep h0 h2 [bs] := (Keep.refl h0 [bs]).wr W2 (Or.inl (List.mem_of_getElem? (i := 0) rfl))
 refine ja (A := oW p e below T2 (jcx m 11 (oR bs) [(.int 0), (.ref bs)])) (fun t k => by
  refine XS.aloadN X2.here hx rfl (dd 5 rfl) rfl rfl ?_
  refine XS.iconst X2.here hx rfl (dd 6 rfl) ?_
  exact k) ?_
 obtain ⟨T3, h3, X3, e3, W3, st3⟩ := putFN X2 hx hZ hown ow145 Via.refl e2 f2_3 (Eb0.wr W2) (Or.inl ow146) ow137 (ty := .boolean) (v' := .int (nar .boolean (0 : Int32))) (by decide) rfl (fits_nar_bool _) (g := (jcx m 11 (oR bs) [(.int 0), (.ref bs)])) rfl rfl (dd 7 rfl)
 refine ja st3 ?_
 have f3_1 := f2_1.other W3 (Or.inr (jfQ hw))
 have f3_2 := f2_2.other W3 (Or.inr (jfR hw))
 have f3_3 : Fld Z h3 bs S10' S33' "Z" (.int 0) := f2_3.same W3
 have N3 := Fr.snoc X3 N2 g_bs
 have Z3 : n0 ≤ h3.size := Nat.le_trans Z2 (Keep.of_wr W3).1
 have K3 : Keep h0 h3 [bs] := K2.wr W3 (Or.inl (List.mem_of_getElem? (i := 0) rfl))
 refine ja (A := oW p e below T3 (jcx m 17 (oR bs) [(.int 64), (.ref bs)])) (fun t k => by
  refine XS.aloadN X3.here hx rfl (dd 8 rfl) rfl rfl ?_
  refine XS.bipush X3.here hx rfl (dd 9 rfl) ?_
  exact k) ?_
 obtain ⟨_, T4, L4, X4, hQ4, st4⟩ := jcL X3 hx hZ hown ow147 ow148 ow150 rfl ow149 ow151 ow138 (jgR l Z a0 hw [] bs h3 n0 Z3 ((Eb0.wr W2).wr W3) g_bs f3_1 f3_2 f3_3) e3 ((Eb0.wr W2).wr W3) (by decide) (g := (jcx m 17 (oR bs) [(.int 64), (.ref bs)])) rfl (by rw [hml]; rfl) (rest := []) rfl (lenOf jbu rfl) rfl (W := 0) (Nat.le_of_eq rfl) (dd 10 rfl) (by decide)
 obtain ⟨wa, kw, rfl, N4q, K4q, s_wa, p4_0, p4_1, p4_2, p4_3, p4_4⟩ := hQ4
 have N4 := Fr.app N3 N4q
 have g_wa : n0 ≤ wa := Nat.le_trans Z3 s_wa
 have sz_wa : h0.size ≤ wa := Nat.le_trans K3.1 s_wa
 have ne_bs_wa : bs ≠ wa := Nat.ne_of_lt (Nat.lt_of_lt_of_le ((Eb0.wr W2).wr W3).lt s_wa)
 have Z4 : n0 ≤ T4.heap.size := Nat.le_trans Z3 K4q.1
 have K4 : Keep h0 T4.heap [bs] := K3.trans K4q (allS (Or.inl (List.mem_of_getElem? (i := 0) rfl)) all0)
 refine ja st4 ?_
 refine ja (A := oW p e below T4 (jcx m 22 (oR bs) [(.int 0), (.ref bs)])) (fun t k => by
  refine XS.aloadN X4.here hx rfl (dd 11 rfl) rfl rfl ?_
  refine XS.iconst X4.here hx rfl (dd 12 rfl) ?_
  exact k) ?_
 obtain ⟨T5, h5, X5, e5, W5, st5⟩ := putFN X4 hx hZ hown ow145 Via.refl rfl p4_4 (((Eb0.wr W2).wr W3).keep K4q) (Or.inl ow146) ow137 (ty := .boolean) (v' := .int (nar .boolean (0 : Int32))) (by decide) rfl (fits_nar_bool _) (g := (jcx m 22 (oR bs) [(.int 0), (.ref bs)])) rfl rfl (dd 13 rfl)
 refine ja st5 ?_
 have f5_2 := p4_1.other W5 ((Ne.symm ne_bs_wa))
 have f5_3 := p4_2.other W5 (Or.inr (jfQ hw))
 have f5_4 := p4_3.other W5 (Or.inr (jfR hw))
 have f5_5 : Fld Z h5 bs S10' S33' "Z" (.int 0) := p4_4.same W5
 have N5 := Fr.snoc X5 N4 g_bs
 have Z5 : n0 ≤ h5.size := Nat.le_trans Z4 (Keep.of_wr W5).1
 have K5 : Keep h0 h5 [bs] := K4.wr W5 (Or.inl (List.mem_of_getElem? (i := 0) rfl))
 refine jaa X5 hx Bd hPf (by decide) (by decide) (dd 14 rfl) ?_
 rw [e5]
 exact ⟨wa, kw, rfl, N5, K5, sz_wa, (p4_0.wr W5), f5_2, f5_3, f5_4, f5_5⟩
abbrev jfS (m : MethodId) (pc : Nat) (a0 a1 a2 : Slot) (S : List Value) : JFrame := mkF m pc #[a0, a1, a2] S
theorem oD92_14j : oDec jdk_92_method_14_code [(0, .aload_n 0, 1), (1, .getfield 11, 3), (4, .arraylength, 1), (5, .iload_n 1, 1), (6, .if_icmp .ge 32, 3), (9, .iconst 2, 1), (10, .aload_n 0, 1), (11, .getfield 11, 3), (14, .arraylength, 1), (15, .imul, 1), (16, .iload_n 1, 1), (17, .invokestatic 133, 3), (20, .istore_n 2, 1), (21, .aload_n 0, 1), (22, .aload_n 0, 1), (23, .getfield 11, 3), (26, .iload_n 2, 1), (27, .invokestatic 59, 3), (30, .putfield 11, 3), (33, .aload_n 0, 1), (34, .iconst 0, 1), (35, .putfield 24, 3), (38, .return_, 1)] := by decide +kernel
theorem jbV (m : MethodId) (x0 : Addr) (x1 : Int32) : entryFrame m #[(.ref x0), (.int x1)] 3 = mkF m 0 #[(oR x0), (oi x1), ou] [] := by first | (simp [entryFrame, mkF, argsToLocals, Value.category]; done) | rfl
def jiJ (Z : State) (bs : Addr) (uu sk : Int32) (wa : Addr) (kw : ClassId) (xx : Int64) (h0 : Heap) (n0 : Nat) (v : Option Value) (h : Heap) (L : List Loc) : Prop := v = none ∧ Fr n0 L ∧ h = h0
theorem jgT (l : Launch) (Z : State) (a0 : Array Value) (hw : oH a0 Z) (ws : List Jvm.Cond) (bs : Addr) (uu sk : Int32) (wa : Addr) (kw : ClassId) (xx : Int64) (h0 : Heap) (n0 : Nat) (Z0 : n0 ≤ h0.size) (Eb0 : Exa Z h0 bs S10') (g_bs : n0 ≤ bs) (Fb0 : Fld Z h0 bs S10' "words" "[J" (.ref wa)) (Fb1 : Fld Z h0 bs S10' S32' "I" (.int uu)) (Fb2 : Fld Z h0 bs S10' S33' "Z" (.int sk)) (Ew0 : Exa Z h0 wa "[J") (Vw0 : Arv Z h0 wa kw .long (1 : Int32) [(.long xx)] (.long 0)) :
  ji l Z (⟨S10', "ensureCapacity", "(I)V"⟩ : MethodName) jdk_92_method_14_code 3 none ws ({ frames := 0, cells := 0, slots := 0, locals := 0 } : Room) #[(.ref bs), (.int 1)] h0 (jiJ Z bs uu sk wa kw xx h0 n0) := by
 refine jb (plainFor_of_name jO) (fun m => jbV m bs (1 : Int32)) ?_
 intro p e s m below meth c s₁ Bd hx hby hml hown hZ X0 e0 Pf hPf
 have N0 := Fr.nil n0
 have dd := oD92_14j.hb hby
 have ow156 := ow hw 156 rfl
 refine ja (A := oW p e below s₁ (jfS m 1 (oR bs) (oi 1) ou [(.ref bs)])) (fun t k => by
  refine XS.aloadN X0.here hx rfl (dd 0 rfl) rfl rfl ?_
  exact k) ?_
 obtain ⟨T1, X1, e1, st1⟩ := getF X0 hx hZ hown (host := "") (Or.inl ow156) Via.refl e0 Fb0 (g := (jfS m 1 (oR bs) (oi 1) ou [(.ref bs)])) rfl rfl (dd 1 rfl)
 refine ja st1 ?_
 refine ja (A := oW p e below T1 (jfS m 38 (oR bs) (oi 1) ou [])) (fun t k => by
  refine jM X1 hx hZ e1 Vw0 (g := (jfS m 4 (oR bs) (oi 1) ou [(.ref wa)])) rfl rfl (dd 2 rfl) _ ?_
  refine XS.iloadN X1.here hx rfl (dd 3 rfl) rfl ?_
  refine XS.icmpYes X1.here hx rfl (pc0 := 6) (pc' := 38) rfl (dd 4 rfl) rfl (flt (by decide : ¬ ((1 : Int32) < (1 : Int32)))).2.1 (by decide) (by decide) ?_
  exact k) ?_
 refine jaa X1 hx Bd hPf (by decide) (by decide) (dd 22 rfl) ?_
 rw [e1]
 exact ⟨rfl, N0, rfl⟩
abbrev jcQ (m : MethodId) (pc : Nat) (a0 a1 a2 : Slot) (S : List Value) : JFrame := mkF m pc #[a0, a1, a2] S
theorem oD92_15j : oDec jdk_92_method_15_code [(0, .iload_n 1, 1), (1, .iconst 1, 1), (2, .iadd, 1), (3, .istore_n 2, 1), (4, .aload_n 0, 1), (5, .getfield 7, 3), (8, .iload_n 2, 1), (9, .if_icmp .ge 13, 3), (12, .aload_n 0, 1), (13, .iload_n 2, 1), (14, .invokevirtual 139, 3), (17, .aload_n 0, 1), (18, .iload_n 2, 1), (19, .putfield 7, 3), (22, .return_, 1)] := by decide +kernel
def jiK (Z : State) (bs : Addr) (uu sk : Int32) (wa : Addr) (kw : ClassId) (xx : Int64) (h0 : Heap) (n0 : Nat) (v : Option Value) (h : Heap) (L : List Loc) : Prop := ∃ u2, v = none ∧ Fr n0 L ∧ Keep h0 h [bs] ∧ Fld Z h bs S10' "words" "[J" (.ref wa) ∧ Fld Z h bs S10' S32' "I" (.int u2) ∧ Fld Z h bs S10' S33' "Z" (.int sk)
theorem jgU (l : Launch) (Z : State) (a0 : Array Value) (hw : oH a0 Z) (ws : List Jvm.Cond) (bs : Addr) (uu sk : Int32) (wa : Addr) (kw : ClassId) (xx : Int64) (h0 : Heap) (n0 : Nat) (Z0 : n0 ≤ h0.size) (Eb0 : Exa Z h0 bs S10') (g_bs : n0 ≤ bs) (Fb0 : Fld Z h0 bs S10' "words" "[J" (.ref wa)) (Fb1 : Fld Z h0 bs S10' S32' "I" (.int uu)) (Fb2 : Fld Z h0 bs S10' S33' "Z" (.int sk)) (Ew0 : Exa Z h0 wa "[J") (Vw0 : Arv Z h0 wa kw .long (1 : Int32) [(.long xx)] (.long 0)) :
  ji l Z (⟨S10', "expandTo", "(I)V"⟩ : MethodName) jdk_92_method_15_code 3 none ws ({ frames := 1, cells := 0, slots := 0, locals := 14 } : Room) #[(.ref bs), (.int 0)] h0 (jiK Z bs uu sk wa kw xx h0 n0) := by
 refine jb (plainFor_of_name jO) (fun m => jbV m bs (0 : Int32)) ?_
 intro p e s m below meth c s₁ Bd hx hby hml hown hZ X0 e0 Pf hPf
 have N0 := Fr.nil n0
 have dd := oD92_15j.hb hby
 have ow137 := ow hw 137 rfl
 have ow138 := ow hw 138 rfl
 have ow143 := ow hw 143 rfl
 have ow144 := ow hw 144 rfl
 have ow150 := ow hw 150 rfl
 have ow491 := ow hw 491 rfl
 have ow492 := ow hw 492 rfl
 have ow493 := ow hw 493 rfl
 have ow495 := ow hw 495 rfl
 refine ja (A := oW p e below s₁ (jcQ m 5 (oR bs) (oi 0) (oi 1) [(.ref bs)])) (fun t k => by
  refine XS.iloadN X0.here hx rfl (dd 0 rfl) rfl ?_
  refine XS.iconst X0.here hx rfl (dd 1 rfl) ?_
  refine XS.iadd X0.here hx rfl (dd 2 rfl) rfl ?_
  refine XS.istoreN X0.here hx rfl (dd 3 rfl) rfl (l' := #[(oR bs), (oi 0), (oi 1)]) rfl ?_
  refine XS.aloadN X0.here hx rfl (dd 4 rfl) rfl rfl ?_
  exact k) ?_
 obtain ⟨T1, X1, e1, st1⟩ := getF X0 hx hZ hown (host := "") (Or.inl ow143) Via.refl e0 Fb1 (g := (jcQ m 5 (oR bs) (oi 0) (oi 1) [(.ref bs)])) rfl rfl (dd 5 rfl)
 refine ja st1 ?_
 refine ja (A := oW p e below T1 (jcQ m 9 (oR bs) (oi 0) (oi 1) [(.int 1), (.int uu)])) (fun t k => by
  refine XS.iloadN X1.here hx rfl (dd 6 rfl) rfl ?_
  exact k) ?_
 by_cases hc9_2 : uu < (1 : Int32)
 ·
  refine ja (A := oW p e below T1 (jcQ m 14 (oR bs) (oi 0) (oi 1) [(.int 1), (.ref bs)])) (fun t k => by
   refine XS.icmpNo X1.here hx rfl (dd 7 rfl) rfl (tlt hc9_2).2.1 ?_
   refine XS.aloadN X1.here hx rfl (dd 8 rfl) rfl rfl ?_
   refine XS.iloadN X1.here hx rfl (dd 9 rfl) rfl ?_
   exact k) ?_
  obtain ⟨_, T3, L3, X3, hQ3, st3⟩ := jcL X1 hx hZ hown ow491 ow492 ow150 rfl ow493 ow495 ow138 (jgT l Z a0 hw [] bs uu sk wa kw xx h0 n0 Z0 Eb0 g_bs Fb0 Fb1 Fb2 Ew0 Vw0) e1 Eb0 (by decide) (g := (jcQ m 14 (oR bs) (oi 0) (oi 1) [(.int 1), (.ref bs)])) rfl (by rw [hml]; rfl) (rest := []) rfl (lenOf jbu rfl) rfl (W := 0) (Nat.le_of_eq rfl) (dd 10 rfl) (by decide)
  obtain ⟨rfl, N3q, eh3⟩ := hQ3
  have N3 := Fr.app N0 N3q
  refine ja st3 ?_
  refine ja (A := oW p e below T3 (jcQ m 19 (oR bs) (oi 0) (oi 1) [(.int 1), (.ref bs)])) (fun t k => by
   refine XS.aloadN X3.here hx rfl (dd 11 rfl) rfl rfl ?_
   show oW p e below T3 (jcQ m 18 (oR bs) (oi 0) (oi 1) [(.ref bs)]) _
   refine XS.iloadN X3.here hx rfl (dd 12 rfl) rfl ?_
   exact k) ?_
  obtain ⟨T4, h4, X4, e4, W4, st4⟩ := putF X3 hx hZ hown (host := "") (Or.inl ow143) Via.refl eh3 Fb1 Eb0 (Or.inl ow144) ow137 (ty := .int) (by decide) rfl rfl (g := (jcQ m 19 (oR bs) (oi 0) (oi 1) [(.int 1), (.ref bs)])) rfl rfl (dd 13 rfl)
  refine ja st4 ?_
  have f4_1 := Fb0.other W4 (Or.inr (jfO hw))
  have f4_2 : Fld Z h4 bs S10' S32' "I" (.int 1) := Fb1.same W4
  have f4_3 := Fb2.other W4 (Or.inr (jfP hw))
  have f4_5 := Vw0.other W4 ((Exa.ne Ew0 Eb0 (by decide)))
  have N4 := Fr.snoc X4 N3 g_bs
  have Z4 : n0 ≤ h4.size := Nat.le_trans Z0 (Keep.of_wr W4).1
  have K4 : Keep h0 h4 [bs] := (Keep.refl h0 [bs]).wr W4 (Or.inl (List.mem_of_getElem? (i := 0) rfl))
  refine jaa X4 hx Bd hPf (by decide) (by decide) (dd 14 rfl) ?_
  rw [e4]
  exact ⟨_, rfl, N4, K4, f4_1, f4_2, f4_3⟩
 ·
  refine ja (A := oW p e below T1 (jcQ m 22 (oR bs) (oi 0) (oi 1) [])) (fun t k => by
   refine XS.icmpYes X1.here hx rfl (pc0 := 9) (pc' := 22) rfl (dd 7 rfl) rfl (flt hc9_2).2.1 (by decide) (by decide) ?_
   exact k) ?_
  refine jaa X1 hx Bd hPf (by decide) (by decide) (dd 14 rfl) ?_
  rw [e1]
  exact ⟨_, rfl, N0, (Keep.refl h0 [bs]), Fb0, Fb1, Fb2⟩
abbrev jdJ (m : MethodId) (pc : Nat) (a0 : Slot) (S : List Value) : JFrame := mkF m pc #[a0] S
theorem oD92_2j : oDec jdk_92_method_2_code [(0, .getstatic 3, 3), (3, .ifCond .ne 34, 3), (6, .aload_n 0, 1), (7, .getfield 7, 3), (10, .ifCond .eq 27, 3), (13, .aload_n 0, 1), (14, .getfield 11, 3), (17, .aload_n 0, 1), (18, .getfield 7, 3), (21, .iconst 1, 1), (22, .isub, 1), (23, .laload, 1), (24, .lconst 0, 1), (25, .lcmp, 1), (26, .ifCond .ne 11, 3), (29, .new 15, 3), (32, .dup, 1), (33, .invokespecial 17, 3), (36, .athrow, 1), (37, .getstatic 3, 3), (40, .ifCond .ne 30, 3), (43, .aload_n 0, 1), (44, .getfield 7, 3), (47, .ifCond .lt 15, 3), (50, .aload_n 0, 1), (51, .getfield 7, 3), (54, .aload_n 0, 1), (55, .getfield 11, 3), (58, .arraylength, 1), (59, .if_icmp .le 11, 3), (62, .new 15, 3), (65, .dup, 1), (66, .invokespecial 17, 3), (69, .athrow, 1), (70, .getstatic 3, 3), (73, .ifCond .ne 37, 3), (76, .aload_n 0, 1), (77, .getfield 7, 3), (80, .aload_n 0, 1), (81, .getfield 11, 3), (84, .arraylength, 1), (85, .if_icmp .eq 25, 3), (88, .aload_n 0, 1), (89, .getfield 11, 3), (92, .aload_n 0, 1), (93, .getfield 7, 3), (96, .laload, 1), (97, .lconst 0, 1), (98, .lcmp, 1), (99, .ifCond .eq 11, 3), (102, .new 15, 3), (105, .dup, 1), (106, .invokespecial 17, 3), (109, .athrow, 1), (110, .return_, 1)] := by decide +kernel
def jiL (Z : State) (bs : Addr)  (h0 : Heap) (n0 : Nat) (v : Option Value) (h : Heap) (L : List Loc) : Prop := v = none ∧ Fr n0 L ∧ h = h0
theorem jgV (l : Launch) (Z : State) (a0 : Array Value) (hw : oH a0 Z) (ws : List Jvm.Cond) (bs : Addr)  (h0 : Heap) (n0 : Nat) (Z0 : n0 ≤ h0.size) (Sa0 : Sta Z h0 S10' S55' "Z" (.int 1)) :
  ji l Z (⟨S10', "checkInvariants", "()V"⟩ : MethodName) jdk_92_method_2_code 1 none ws ({ frames := 0, cells := 0, slots := 0, locals := 0 } : Room) #[(.ref bs)] h0 (jiL Z bs h0 n0) := by
 refine jb (plainFor_of_name jO) (fun m => jr m bs) ?_
 intro p e s m below meth c s₁ Bd hx hby hml hown hZ X0 e0 Pf hPf
 have N0 := Fr.nil n0
 have dd := oD92_2j.hb hby
 have ow501 := ow hw 501 rfl
 obtain ⟨T1, X1, e1, st1⟩ := getS2 X0 hx hZ hown (host := "") (Or.inl ow501) Via.refl e0 Sa0 (g := (jdJ m 0 (oR bs) [])) rfl (dd 0 rfl)
 refine ja st1 ?_
 refine ja (A := oW p e below T1 (jdJ m 37 (oR bs) [])) (fun t k => by
  refine XS.ifYes X1.here hx rfl (pc0 := 3) (pc' := 37) rfl (dd 1 rfl) rfl ((if0 _ _).trans (feq (by decide : ¬ ((1 : Int32) = (0 : Int32)))).2) (by decide) (by decide) ?_
  exact k) ?_
 obtain ⟨T2, X2, e2, st2⟩ := getS2 X1 hx hZ hown (host := "") (Or.inl ow501) Via.refl e1 Sa0 (g := (jdJ m 37 (oR bs) [])) rfl (dd 19 rfl)
 refine ja st2 ?_
 refine ja (A := oW p e below T2 (jdJ m 70 (oR bs) [])) (fun t k => by
  refine XS.ifYes X2.here hx rfl (pc0 := 40) (pc' := 70) rfl (dd 20 rfl) rfl ((if0 _ _).trans (feq (by decide : ¬ ((1 : Int32) = (0 : Int32)))).2) (by decide) (by decide) ?_
  exact k) ?_
 obtain ⟨T3, X3, e3, st3⟩ := getS2 X2 hx hZ hown (host := "") (Or.inl ow501) Via.refl e2 Sa0 (g := (jdJ m 70 (oR bs) [])) rfl (dd 34 rfl)
 refine ja st3 ?_
 refine ja (A := oW p e below T3 (jdJ m 110 (oR bs) [])) (fun t k => by
  refine XS.ifYes X3.here hx rfl (pc0 := 73) (pc' := 110) rfl (dd 35 rfl) rfl ((if0 _ _).trans (feq (by decide : ¬ ((1 : Int32) = (0 : Int32)))).2) (by decide) (by decide) ?_
  exact k) ?_
 refine jaa X3 hx Bd hPf (by decide) (by decide) (dd 54 rfl) ?_
 rw [e3]
 exact ⟨rfl, N0, rfl⟩
def jck (Z : State) (n0 : Nat) (h : Heap) (bs wa : Addr) : Prop := n0 ≤ bs ∧ n0 ≤ wa ∧ Exa Z h bs S10' ∧ Exa Z h wa "[J" ∧ ∃ kw xx uu sk, Arv Z h wa kw .long (1 : Int32) [.long xx] (.long 0) ∧ Fld Z h bs S10' "words" "[J" (.ref wa) ∧ Fld Z h bs S10' S32' "I" (.int uu) ∧ Fld Z h bs S10' S33' "Z" (.int sk)
theorem jck.ext {Z : State} {n0 : Nat} {h h' : Heap} {bs wa : Addr} (B : jck Z n0 h bs wa) (E : Ext h h') : jck Z n0 h' bs wa := by
 obtain ⟨g1, g2, e1, e2, kw, xx, uu, sk, v, f1, f2, f3⟩ := B
 exact ⟨g1, g2, e1.ext E, e2.ext E, kw, xx, uu, sk, v.ext E, f1.ext E, f2.ext E, f3.ext E⟩
theorem jck.keep {Z : State} {n0 : Nat} {h h' : Heap} {bs wa : Addr} {ws : List Addr} (B : jck Z n0 h bs wa) (K : Keep h h' ws) (N : ∀ x ∈ ws, jab Z h x [S10', "[J"]) : jck Z n0 h' bs wa := by
 obtain ⟨g1, g2, e1, e2, kw, xx, uu, sk, v, f1, f2, f3⟩ := B
 have n1 := jV N e1 (by simp)
 exact ⟨g1, g2, e1.keep K, e2.keep K, kw, xx, uu, sk, v.keep K (jV N e2 (by simp)), f1.keep K n1, f2.keep K n1, f3.keep K n1⟩
abbrev jbL (m : MethodId) (pc : Nat) (a0 a1 a2 : Slot) (S : List Value) : JFrame := mkF m pc #[a0, a1, a2] S
theorem oD92_19j : oDec jdk_92_method_19_code [(0, .iload_n 1, 1), (1, .ifCond .ge 30, 3), (4, .new 142, 3), (7, .dup, 1), (8, .new 33, 3), (11, .dup, 1), (12, .invokespecial 35, 3), (15, .ldc 153, 2), (17, .invokevirtual 38, 3), (20, .iload_n 1, 1), (21, .invokevirtual 42, 3), (24, .invokevirtual 45, 3), (27, .invokespecial 146, 3), (30, .athrow, 1), (31, .iload_n 1, 1), (32, .invokestatic 52, 3), (35, .istore_n 2, 1), (36, .aload_n 0, 1), (37, .iload_n 2, 1), (38, .invokevirtual 155, 3), (41, .aload_n 0, 1), (42, .getfield 11, 3), (45, .iload_n 2, 1), (46, .dup2, 1), (47, .laload, 1), (48, .lconst 1, 1), (49, .iload_n 1, 1), (50, .lshl, 1), (51, .lor, 1), (52, .lastore, 1), (53, .aload_n 0, 1), (54, .invokevirtual 56, 3), (57, .return_, 1)] := by decide +kernel
def jiM (Z : State) (bs : Addr) (pw : Int32) (wa : Addr) (h0 : Heap) (n0 : Nat) (v : Option Value) (h : Heap) (L : List Loc) : Prop := v = none ∧ Fr n0 L ∧ Keep h0 h [bs, wa] ∧ jck Z n0 h bs wa ∧ Sta Z h S10' S55' "Z" (.int 1)
theorem jgW (l : Launch) (Z : State) (a0 : Array Value) (hw : oH a0 Z) (ws : List Jvm.Cond) (bs : Addr) (pw : Int32) (wa : Addr) (h0 : Heap) (n0 : Nat) (Z0 : n0 ≤ h0.size) (HB0 : jck Z n0 h0 bs wa) (hw3 : jaf pw) (Sa0 : Sta Z h0 S10' S55' "Z" (.int 1)) :
  ji l Z (⟨S10', "set", "(I)V"⟩ : MethodName) jdk_92_method_19_code 3 none ws ({ frames := 2, cells := 0, slots := 0, locals := 28 } : Room) #[(.ref bs), (.int pw)] h0 (jiM Z bs pw wa h0 n0) := by
 refine jb (plainFor_of_name jO) (fun m => jbV m bs pw) ?_
 intro p e s m below meth c s₁ Bd hx hby hml hown hZ X0 e0 Pf hPf
 have N0 := Fr.nil n0
 have dd := oD92_19j.hb hby
 have ow138 := ow hw 138 rfl
 have ow150 := ow hw 150 rfl
 have ow152 := ow hw 152 rfl
 have ow153 := ow hw 153 rfl
 have ow154 := ow hw 154 rfl
 have ow156 := ow hw 156 rfl
 have ow486 := ow hw 486 rfl
 have ow487 := ow hw 487 rfl
 have ow488 := ow hw 488 rfl
 have ow490 := ow hw 490 rfl
 have ow496 := ow hw 496 rfl
 have ow497 := ow hw 497 rfl
 have ow498 := ow hw 498 rfl
 have ow500 := ow hw 500 rfl
 obtain ⟨g_bs, g_wa, Eb0, Ew0, kw, xx, uu, sk, Vw0, Fb0, Fb1, Fb2⟩ := id HB0
 obtain ⟨g_bs, g_wa, Eb0, Ew0, kw, xx, uu, sk, Vw0, Fb0, Fb1, Fb2⟩ := id HB0
 refine ja (A := oW p e below s₁ (jbL m 32 (oR bs) (oi pw) ou [(.int pw)])) (fun t k => by
  refine XS.iloadN X0.here hx rfl (dd 0 rfl) rfl ?_
  refine XS.ifYes X0.here hx rfl (pc0 := 1) (pc' := 31) rfl (dd 1 rfl) rfl ((if0 _ _).trans (flt (jiF hw3)).2.1) (by decide) (by decide) ?_
  refine XS.iloadN X0.here hx rfl (dd 14 rfl) rfl ?_
  exact k) ?_
 obtain ⟨_, T1, L1, X1, hQ1, st1⟩ := jH X0 hx hZ hown ow152 ow153 ow154 ow138 (jdH l Z a0 hw [] pw h0 n0 Z0 (jly hw3)) e0 (by decide) (g := (jbL m 32 (oR bs) (oi pw) ou [(.int pw)])) rfl (by rw [hml]; rfl) (rest := []) rfl (lenOf jcP rfl) rfl (W := 0) (Nat.le_of_eq rfl) (dd 15 rfl) (by decide)
 obtain ⟨rfl, N1q, eh1⟩ := hQ1
 have N1 := Fr.app N0 N1q
 refine ja st1 ?_
 refine ja (A := oW p e below T1 (jbL m 38 (oR bs) (oi pw) (oi 0) [(.int 0), (.ref bs)])) (fun t k => by
  refine XS.istoreN X1.here hx rfl (dd 16 rfl) rfl (l' := #[(oR bs), (oi pw), (oi 0)]) rfl ?_
  refine XS.aloadN X1.here hx rfl (dd 17 rfl) rfl rfl ?_
  show oW p e below T1 (jbL m 37 (oR bs) (oi pw) (oi 0) [(.ref bs)]) _
  refine XS.iloadN X1.here hx rfl (dd 18 rfl) rfl ?_
  exact k) ?_
 obtain ⟨_, T2, L2, X2, hQ2, st2⟩ := jcL X1 hx hZ hown ow486 ow487 ow150 rfl ow488 ow490 ow138 (jgU l Z a0 hw [] bs uu sk wa kw xx h0 n0 Z0 Eb0 g_bs Fb0 Fb1 Fb2 Ew0 Vw0) eh1 Eb0 (by decide) (g := (jbL m 38 (oR bs) (oi pw) (oi 0) [(.int 0), (.ref bs)])) rfl (by rw [hml]; rfl) (rest := []) rfl (lenOf jbu rfl) rfl (W := 0) (Nat.le_of_eq rfl) (dd 19 rfl) (by decide)
 obtain ⟨u2b, rfl, N2q, K2q, p2_0, p2_1, p2_2⟩ := hQ2
 have N2 := Fr.app N1 N2q
 have f2_0 := jC Sa0 K2q (allS (jaZ Eb0) all0)
 have f2_6 := Vw0.keep K2q (ninS (Exa.ne Ew0 Eb0 (by decide)) nin0)
 have Z2 : n0 ≤ T2.heap.size := Nat.le_trans Z0 K2q.1
 have K2 : Keep h0 T2.heap [bs, wa] := (Keep.refl h0 [bs, wa]).trans K2q (allS (Or.inl (List.mem_of_getElem? (i := 0) rfl)) all0)
 refine ja st2 ?_
 refine ja (A := oW p e below T2 (jbL m 42 (oR bs) (oi pw) (oi 0) [(.ref bs)])) (fun t k => by
  refine XS.aloadN X2.here hx rfl (dd 20 rfl) rfl rfl ?_
  exact k) ?_
 obtain ⟨T3, X3, e3, st3⟩ := getF X2 hx hZ hown (host := "") (Or.inl ow156) Via.refl rfl p2_0 (g := (jbL m 42 (oR bs) (oi pw) (oi 0) [(.ref bs)])) rfl rfl (dd 21 rfl)
 refine ja st3 ?_
 refine ja (A := oW p e below T3 (jbL m 52 (oR bs) (oi pw) (oi 0) [(.long (xx ||| ((1 : Int64) <<< (pw &&& 0x3f).toInt64))), (.int 0), (.ref wa)])) (fun t k => by
  refine XS.iloadN X3.here hx rfl (dd 22 rfl) rfl ?_
  refine XT.dup2 X3.here hx rfl (dd 23 rfl) rfl rfl rfl ?_
  refine jkX X3 hx hZ e3 f2_6 ⟨by decide, by decide⟩ (v := (.long xx)) rfl (g := (jbL m 47 (oR bs) (oi pw) (oi 0) [(.int 0), (.ref wa), (.int 0), (.ref wa)])) rfl rfl (dd 24 rfl) _ ?_
  show oW p e below T3 (jbL m 48 (oR bs) (oi pw) (oi 0) [(.long xx), (.int 0), (.ref wa)]) _
  refine XS.lconst X3.here hx rfl (dd 25 rfl) ?_
  refine XS.iloadN X3.here hx rfl (dd 26 rfl) rfl ?_
  refine XS.lshl X3.here hx rfl (dd 27 rfl) rfl ?_
  refine XS.lor X3.here hx rfl (dd 28 rfl) rfl ?_
  exact k) ?_
 obtain ⟨cl4, Ar4, q4, S4, N4, H4, G4⟩ := id (f2_6)
 have hi4 : ¬ ((0 : Int32) < 0 ∨ cl4.slots.size ≤ ((0 : Int32)).toNatClampNeg) := inb_of S4 ⟨by decide, by decide⟩
 obtain ⟨T5, h5, X5, e5, W5, st5⟩ := stJ X3 hx hZ e3 Ar4 (j := (0 : Int32)) hi4 (g := (jbL m 52 (oR bs) (oi pw) (oi 0) [(.long (xx ||| ((1 : Int64) <<< (pw &&& 0x3f).toInt64))), (.int 0), (.ref wa)])) rfl rfl (dd 29 rfl)
 refine ja st5 ?_
 have V5 : Arv Z h5 wa kw .long (1 : Int32) [(.long (xx ||| ((1 : Int64) <<< (pw &&& 0x3f).toInt64)))] (.long 0) := Arv.set Ar4 q4 S4 N4 H4 G4 rfl W5 0 rfl (Nat.le_of_ble_eq_true rfl)
 have f5_4 := p2_0.other W5 (Or.inl (Exa.ne (Eb0.keep K2q) (Ew0.keep K2q) (by decide)))
 have f5_5 := p2_1.other W5 (Or.inl (Exa.ne (Eb0.keep K2q) (Ew0.keep K2q) (by decide)))
 have f5_6 := p2_2.other W5 (Or.inl (Exa.ne (Eb0.keep K2q) (Ew0.keep K2q) (by decide)))
 have N5 := Fr.snoc X5 N2 g_wa
 have Z5 : n0 ≤ h5.size := Nat.le_trans Z2 (Keep.of_wr W5).1
 have K5 : Keep h0 h5 [bs, wa] := K2.wr W5 (Or.inl (List.mem_of_getElem? (i := 1) rfl))
 refine ja (A := oW p e below T5 (jbL m 54 (oR bs) (oi pw) (oi 0) [(.ref bs)])) (fun t k => by
  refine XS.aloadN X5.here hx rfl (dd 30 rfl) rfl rfl ?_
  exact k) ?_
 obtain ⟨_, T6, L6, X6, hQ6, st6⟩ := jcL X5 hx hZ hown ow496 ow497 ow150 rfl ow498 ow500 ow138 (jgV l Z a0 hw [] bs h5 n0 Z5 (f2_0.wr W5)) e5 ((Eb0.keep K2q).wr W5) (by decide) (g := (jbL m 54 (oR bs) (oi pw) (oi 0) [(.ref bs)])) rfl (by rw [hml]; rfl) (rest := []) rfl (lenOf jS rfl) rfl (W := 0) (Nat.le_of_eq rfl) (dd 31 rfl) (by decide)
 obtain ⟨rfl, N6q, eh6⟩ := hQ6
 have N6 := Fr.app N5 N6q
 refine ja st6 ?_
 refine jaa X6 hx Bd hPf (by decide) (by decide) (dd 32 rfl) ?_
 rw [eh6]
 exact ⟨rfl, N6, K5, ⟨g_bs, g_wa, ((Eb0.keep K2q).wr W5), ((Ew0.keep K2q).wr W5), _, _, _, _, V5, f5_4, f5_5, f5_6⟩, (f2_0.wr W5)⟩
abbrev jkP (m : MethodId) (pc : Nat) (a0 : Slot) (S : List Value) : JFrame := mkF m pc #[a0] S
theorem oD38_8j : oDec jdk_38_method_8_code [(0, .aload_n 0, 1), (1, .getfield 48, 3), (4, .ireturn, 1)] := by decide +kernel
def jiN (Z : State) (pa : Addr) (sz : Int32) (h0 : Heap) (n0 : Nat) (v : Option Value) (h : Heap) (L : List Loc) : Prop := v = some (.int sz) ∧ Fr n0 L ∧ h = h0
theorem jcu (l : Launch) (Z : State) (a0 : Array Value) (hw : oH a0 Z) (ws : List Jvm.Cond) (pa : Addr) (sz : Int32) (h0 : Heap) (n0 : Nat) (Z0 : n0 ≤ h0.size) (Fs0 : Fld Z h0 pa S3' S8' "I" (.int sz)) :
  ji l Z (⟨S3', S8', "()I"⟩ : MethodName) jdk_38_method_8_code 1 (some .int) ws ({ frames := 0, cells := 0, slots := 0, locals := 0 } : Room) #[(.ref pa)] h0 (jiN Z pa sz h0 n0) := by
 refine jb (plainFor_of_name jf) (fun m => jr m pa) ?_
 intro p e s m below meth c s₁ Bd hx hby hml hown hZ X0 e0 Pf hPf
 have N0 := Fr.nil n0
 have dd := oD38_8j.hb hby
 have ow62 := ow hw 62 rfl
 refine ja (A := oW p e below s₁ (jkP m 1 (oR pa) [(.ref pa)])) (fun t k => by
  refine XS.aloadN X0.here hx rfl (dd 0 rfl) rfl rfl ?_
  exact k) ?_
 obtain ⟨T1, X1, e1, st1⟩ := getF X0 hx hZ hown (host := "") (Or.inl ow62) Via.refl e0 Fs0 (g := (jkP m 1 (oR pa) [(.ref pa)])) rfl rfl (dd 1 rfl)
 refine ja st1 ?_
 refine jaD X1 hx Bd hPf (by decide) (by decide) (dd 2 rfl) ?_
 rw [e1]
 exact ⟨rfl, N0, rfl⟩
abbrev jiO (m : MethodId) (pc : Nat) (a0 : Slot) (S : List Value) : JFrame := mkF m pc #[a0] S
theorem oD38_9j : oDec jdk_38_method_9_code [(0, .aload_n 0, 1), (1, .getfield 48, 3), (4, .ifCond .ne 7, 3), (7, .iconst 1, 1), (8, .goto 4, 3), (11, .iconst 0, 1), (12, .ireturn, 1)] := by decide +kernel
def jiP (Z : State) (pa : Addr) (sz : Int32) (h0 : Heap) (n0 : Nat) (v : Option Value) (h : Heap) (L : List Loc) : Prop := v = some (.int 0) ∧ Fr n0 L ∧ h = h0
theorem jcW (l : Launch) (Z : State) (a0 : Array Value) (hw : oH a0 Z) (ws : List Jvm.Cond) (pa : Addr) (sz : Int32) (h0 : Heap) (n0 : Nat) (Z0 : n0 ≤ h0.size) (Fs0 : Fld Z h0 pa S3' S8' "I" (.int sz)) (hsz : ¬ sz = (0 : Int32)) :
  ji l Z (⟨S3', "isEmpty", "()Z"⟩ : MethodName) jdk_38_method_9_code 1 (some .boolean) ws ({ frames := 0, cells := 0, slots := 0, locals := 0 } : Room) #[(.ref pa)] h0 (jiP Z pa sz h0 n0) := by
 refine jb (plainFor_of_name jf) (fun m => jr m pa) ?_
 intro p e s m below meth c s₁ Bd hx hby hml hown hZ X0 e0 Pf hPf
 have N0 := Fr.nil n0
 have dd := oD38_9j.hb hby
 have ow62 := ow hw 62 rfl
 refine ja (A := oW p e below s₁ (jiO m 1 (oR pa) [(.ref pa)])) (fun t k => by
  refine XS.aloadN X0.here hx rfl (dd 0 rfl) rfl rfl ?_
  exact k) ?_
 obtain ⟨T1, X1, e1, st1⟩ := getF X0 hx hZ hown (host := "") (Or.inl ow62) Via.refl e0 Fs0 (g := (jiO m 1 (oR pa) [(.ref pa)])) rfl rfl (dd 1 rfl)
 refine ja st1 ?_
 refine ja (A := oW p e below T1 (jiO m 12 (oR pa) [(.int 0)])) (fun t k => by
  refine XS.ifYes X1.here hx rfl (pc0 := 4) (pc' := 11) rfl (dd 2 rfl) rfl ((if0 _ _).trans (feq hsz).2) (by decide) (by decide) ?_
  refine XS.iconst X1.here hx rfl (dd 5 rfl) ?_
  exact k) ?_
 refine jaw X1 hx Bd (by simp) hPf (by decide) (by decide) (dd 6 rfl) ?_
 rw [e1]
 exact ⟨rfl, N0, rfl⟩
abbrev jkQ (m : MethodId) (pc : Nat) (a0 a1 a2 : Slot) (S : List Value) : JFrame := mkF m pc #[a0, a1, a2] S
theorem oD41_11j : oDec jdk_41_method_11_code [(0, .iload_n 0, 1), (1, .ifCond .lt 8, 3), (4, .iload_n 0, 1), (5, .iload_n 1, 1), (6, .if_icmp .lt 10, 3), (9, .aload_n 2, 1), (10, .iload_n 0, 1), (11, .iload_n 1, 1), (12, .invokestatic 95, 3), (15, .athrow, 1), (16, .iload_n 0, 1), (17, .ireturn, 1)] := by decide +kernel
theorem jes (m : MethodId) (x0 : Int32) (x1 : Int32) : entryFrame m #[(.int x0), (.int x1), .null] 3 = mkF m 0 #[(oi x0), (oi x1), (.val .null)] [] := by first | (simp [entryFrame, mkF, argsToLocals, Value.category]; done) | rfl
def jiQ (Z : State) (pi : Int32) (pn : Int32)  (h0 : Heap) (n0 : Nat) (v : Option Value) (h : Heap) (L : List Loc) : Prop := v = some (.int pi) ∧ Fr n0 L ∧ h = h0
theorem jaK : plainName "jdk/internal/util/Preconditions" = true := by first | (simp [plainName, overriddenIn]; done) | decide +kernel
theorem jgX (l : Launch) (Z : State) (a0 : Array Value) (hw : oH a0 Z) (ws : List Jvm.Cond) (pi : Int32) (pn : Int32)  (h0 : Heap) (n0 : Nat) (Z0 : n0 ≤ h0.size) (hin : ¬ pi < (0 : Int32) ∧ pi < pn) :
  ji l Z (⟨"jdk/internal/util/Preconditions", "checkIndex", "(IILjava/util/function/BiFunction;)I"⟩ : MethodName) jdk_41_method_11_code 3 (some .int) ws ({ frames := 0, cells := 0, slots := 0, locals := 0 } : Room) #[(.int pi), (.int pn), .null] h0 (jiQ Z pi pn h0 n0) := by
 refine jb (plainFor_of_name jaK) (fun m => jes m pi pn) ?_
 intro p e s m below meth c s₁ Bd hx hby hml hown hZ X0 e0 Pf hPf
 have N0 := Fr.nil n0
 have dd := oD41_11j.hb hby
 refine ja (A := oW p e below s₁ (jkQ m 17 (oi pi) (oi pn) (.val .null) [(.int pi)])) (fun t k => by
  refine XS.iloadN X0.here hx rfl (dd 0 rfl) rfl ?_
  refine XS.ifNo X0.here hx rfl (dd 1 rfl) rfl ((if0 _ _).trans (flt hin.1).1) ?_
  refine XS.iloadN X0.here hx rfl (dd 2 rfl) rfl ?_
  refine XS.iloadN X0.here hx rfl (dd 3 rfl) rfl ?_
  refine XS.icmpYes X0.here hx rfl (pc0 := 6) (pc' := 16) rfl (dd 4 rfl) rfl (tlt hin.2).1 (by decide) (by decide) ?_
  show oW p e below s₁ (jkQ m 16 (oi pi) (oi pn) (.val .null) []) _
  refine XS.iloadN X0.here hx rfl (dd 10 rfl) rfl ?_
  exact k) ?_
 refine jaD X0 hx Bd hPf (by decide) (by decide) (dd 11 rfl) ?_
 rw [e0]
 exact ⟨rfl, N0, rfl⟩
abbrev jkR (m : MethodId) (pc : Nat) (a0 a1 : Slot) (S : List Value) : JFrame := mkF m pc #[a0, a1] S
theorem oD31_17j : oDec jdk_31_method_17_code [(0, .iload_n 0, 1), (1, .iload_n 1, 1), (2, .aconst_null, 1), (3, .invokestatic 105, 3), (6, .ireturn, 1)] := by decide +kernel
theorem jan : parseMethodDescriptor "(IILjava/util/function/BiFunction;)I" = some ⟨[.int, .int, (.object "java/util/function/BiFunction")], some .int⟩ := by decide +kernel
def jiR (Z : State) (pi : Int32) (pn : Int32)  (h0 : Heap) (n0 : Nat) (v : Option Value) (h : Heap) (L : List Loc) : Prop := v = some (.int pi) ∧ Fr n0 L ∧ h = h0
theorem jaz : plainName "java/util/Objects" = true := by first | (simp [plainName, overriddenIn]; done) | decide +kernel
theorem jgY (l : Launch) (Z : State) (a0 : Array Value) (hw : oH a0 Z) (ws : List Jvm.Cond) (pi : Int32) (pn : Int32)  (h0 : Heap) (n0 : Nat) (Z0 : n0 ≤ h0.size) (hin : ¬ pi < (0 : Int32) ∧ pi < pn) :
  ji l Z (⟨"java/util/Objects", "checkIndex", "(II)I"⟩ : MethodName) jdk_31_method_17_code 2 (some .int) ws ({ frames := 1, cells := 0, slots := 0, locals := 14 } : Room) #[(.int pi), (.int pn)] h0 (jiR Z pi pn h0 n0) := by
 refine jb (plainFor_of_name jaz) (fun m => jbk m pi pn) ?_
 intro p e s m below meth c s₁ Bd hx hby hml hown hZ X0 e0 Pf hPf
 have N0 := Fr.nil n0
 have dd := oD31_17j.hb hby
 have ow421 := ow hw 421 rfl
 have ow422 := ow hw 422 rfl
 have ow423 := ow hw 423 rfl
 have ow424 := ow hw 424 rfl
 refine ja (A := oW p e below s₁ (jkR m 3 (oi pi) (oi pn) [.null, (.int pn), (.int pi)])) (fun t k => by
  refine XS.iloadN X0.here hx rfl (dd 0 rfl) rfl ?_
  refine XS.iloadN X0.here hx rfl (dd 1 rfl) rfl ?_
  refine XS.aconstNull X0.here hx rfl (dd 2 rfl) ?_
  exact k) ?_
 obtain ⟨_, T1, L1, X1, hQ1, st1⟩ := jH X0 hx hZ hown ow421 ow422 ow424 ow423 (jgX l Z a0 hw [] pi pn h0 n0 Z0 hin) e0 (by decide) (g := (jkR m 3 (oi pi) (oi pn) [.null, (.int pn), (.int pi)])) rfl (by rw [hml]; rfl) (rest := []) rfl (lenOf jan rfl) rfl (W := 0) (Nat.le_of_eq rfl) (dd 3 rfl) (by decide)
 obtain ⟨rfl, N1q, eh1⟩ := hQ1
 have N1 := Fr.app N0 N1q
 refine ja st1 ?_
 refine jaD X1 hx Bd hPf (by decide) (by decide) (dd 4 rfl) ?_
 rw [eh1]
 exact ⟨rfl, N1, rfl⟩
abbrev jfT (m : MethodId) (pc : Nat) (a0 a1 : Slot) (S : List Value) : JFrame := mkF m pc #[a0, a1] S
theorem oD38_18j : oDec jdk_38_method_18_code [(0, .aload_n 0, 1), (1, .getfield 9, 3), (4, .iload_n 1, 1), (5, .aaload, 1), (6, .areturn, 1)] := by decide +kernel
def jiS (Z : State) (pa : Addr) (pi : Int32) (ea : Addr) (ke : ClassId) (evs : List Value) (we : Addr) (h0 : Heap) (n0 : Nat) (v : Option Value) (h : Heap) (L : List Loc) : Prop := v = some (.ref we) ∧ Fr n0 L ∧ h = h0
theorem jgZ (l : Launch) (Z : State) (a0 : Array Value) (hw : oH a0 Z) (ws : List Jvm.Cond) (pa : Addr) (pi : Int32) (ea : Addr) (ke : ClassId) (evs : List Value) (we : Addr) (h0 : Heap) (n0 : Nat) (Z0 : n0 ≤ h0.size) (Fe0 : Fld Z h0 pa S3' S15' S4' (.ref ea)) (Vo0 : Arv Z h0 ea ke (.object S0') (10 : Int32) evs .null) (hi10 : ¬ pi < (0 : Int32) ∧ pi < 10) (hev : evs.getD pi.toNatClampNeg .null = .ref we) :
  ji l Z (⟨S3', S15', S59'⟩ : MethodName) jdk_38_method_18_code 2 (some (.object S0')) ws ({ frames := 0, cells := 0, slots := 0, locals := 0 } : Room) #[(.ref pa), (.int pi)] h0 (jiS Z pa pi ea ke evs we h0 n0) := by
 refine jb (plainFor_of_name jf) (fun m => jas m pa pi) ?_
 intro p e s m below meth c s₁ Bd hx hby hml hown hZ X0 e0 Pf hPf
 have N0 := Fr.nil n0
 have dd := oD38_18j.hb hby
 have ow25 := ow hw 25 rfl
 refine ja (A := oW p e below s₁ (jfT m 1 (oR pa) (oi pi) [(.ref pa)])) (fun t k => by
  refine XS.aloadN X0.here hx rfl (dd 0 rfl) rfl rfl ?_
  exact k) ?_
 obtain ⟨T1, X1, e1, st1⟩ := getF X0 hx hZ hown (host := "") (Or.inl ow25) Via.refl e0 Fe0 (g := (jfT m 1 (oR pa) (oi pi) [(.ref pa)])) rfl rfl (dd 1 rfl)
 refine ja st1 ?_
 refine ja (A := oW p e below T1 (jfT m 6 (oR pa) (oi pi) [(.ref we)])) (fun t k => by
  refine XS.iloadN X1.here hx rfl (dd 2 rfl) rfl ?_
  refine jbA X1 hx hZ e1 Vo0 hi10 (v := (.ref we)) hev (g := (jfT m 5 (oR pa) (oi pi) [(.int pi), (.ref ea)])) rfl rfl (dd 3 rfl) _ ?_
  exact k) ?_
 refine jE X1 hx Bd hPf (by decide) (by decide) rfl rfl rfl (dd 4 rfl) ?_
 rw [e1]
 exact ⟨rfl, N0, rfl⟩
abbrev jet (m : MethodId) (pc : Nat) (a0 a1 : Slot) (S : List Value) : JFrame := mkF m pc #[a0, a1] S
theorem oD38_20j : oDec jdk_38_method_20_code [(0, .iload_n 1, 1), (1, .aload_n 0, 1), (2, .getfield 48, 3), (5, .invokestatic 118, 3), (8, .pop, 1), (9, .aload_n 0, 1), (10, .iload_n 1, 1), (11, .invokevirtual 123, 3), (14, .areturn, 1)] := by decide +kernel
theorem jT : parseMethodDescriptor "(I)Ljava/lang/Object;" = some ⟨[.int], some (.object "java/lang/Object")⟩ := by decide +kernel
def jiT (Z : State) (pa : Addr) (pi : Int32) (ea : Addr) (ke : ClassId) (evs : List Value) (we : Addr) (sz : Int32) (h0 : Heap) (n0 : Nat) (v : Option Value) (h : Heap) (L : List Loc) : Prop := v = some (.ref we) ∧ Fr n0 L ∧ h = h0
theorem jha (l : Launch) (Z : State) (a0 : Array Value) (hw : oH a0 Z) (ws : List Jvm.Cond) (pa : Addr) (pi : Int32) (ea : Addr) (ke : ClassId) (evs : List Value) (we : Addr) (sz : Int32) (h0 : Heap) (n0 : Nat) (Z0 : n0 ≤ h0.size) (Ea0 : Exa Z h0 pa S3') (Fe0 : Fld Z h0 pa S3' S15' S4' (.ref ea)) (Vo0 : Arv Z h0 ea ke (.object S0') (10 : Int32) evs .null) (hi10 : ¬ pi < (0 : Int32) ∧ pi < 10) (hev : evs.getD pi.toNatClampNeg .null = .ref we) (Fs0 : Fld Z h0 pa S3' S8' "I" (.int sz)) (hin : ¬ pi < (0 : Int32) ∧ pi < sz) :
  ji l Z (⟨S3', "get", S59'⟩ : MethodName) jdk_38_method_20_code 2 (some (.object S0')) ws ({ frames := 2, cells := 0, slots := 0, locals := 27 } : Room) #[(.ref pa), (.int pi)] h0 (jiT Z pa pi ea ke evs we sz h0 n0) := by
 refine jb (plainFor_of_name jf) (fun m => jas m pa pi) ?_
 intro p e s m below meth c s₁ Bd hx hby hml hown hZ X0 e0 Pf hPf
 have N0 := Fr.nil n0
 have dd := oD38_20j.hb hby
 have ow3 := ow hw 3 rfl
 have ow62 := ow hw 62 rfl
 have ow103 := ow hw 103 rfl
 have ow418 := ow hw 418 rfl
 have ow419 := ow hw 419 rfl
 have ow420 := ow hw 420 rfl
 have ow425 := ow hw 425 rfl
 have ow426 := ow hw 426 rfl
 have ow427 := ow hw 427 rfl
 have ow428 := ow hw 428 rfl
 have ow429 := ow hw 429 rfl
 refine ja (A := oW p e below s₁ (jet m 2 (oR pa) (oi pi) [(.ref pa), (.int pi)])) (fun t k => by
  refine XS.iloadN X0.here hx rfl (dd 0 rfl) rfl ?_
  refine XS.aloadN X0.here hx rfl (dd 1 rfl) rfl rfl ?_
  exact k) ?_
 obtain ⟨T1, X1, e1, st1⟩ := getF X0 hx hZ hown (host := "") (Or.inl ow62) Via.refl e0 Fs0 (g := (jet m 2 (oR pa) (oi pi) [(.ref pa), (.int pi)])) rfl rfl (dd 2 rfl)
 refine ja st1 ?_
 obtain ⟨_, T2, L2, X2, hQ2, st2⟩ := jH X1 hx hZ hown ow418 ow419 ow420 ow103 (jgY l Z a0 hw [] pi sz h0 n0 Z0 hin) e1 (by decide) (g := (jet m 5 (oR pa) (oi pi) [(.int sz), (.int pi)])) rfl (by rw [hml]; rfl) (rest := []) rfl (lenOf jaG rfl) rfl (W := 0) (Nat.le_of_eq rfl) (dd 3 rfl) (by decide)
 obtain ⟨rfl, N2q, eh2⟩ := hQ2
 have N2 := Fr.app N0 N2q
 refine ja st2 ?_
 refine ja (A := oW p e below T2 (jet m 11 (oR pa) (oi pi) [(.int pi), (.ref pa)])) (fun t k => by
  refine XS.pop X2.here hx rfl (dd 4 rfl) rfl rfl ?_
  refine XS.aloadN X2.here hx rfl (dd 5 rfl) rfl rfl ?_
  refine XS.iloadN X2.here hx rfl (dd 6 rfl) rfl ?_
  exact k) ?_
 obtain ⟨_, T3, L3, X3, hQ3, st3⟩ := jax X2 hx hZ hown ow425 ow426 ow428 ow427 ow429 ow3 (jgZ l Z a0 hw [] pa pi ea ke evs we h0 n0 Z0 Fe0 Vo0 hi10 hev) eh2 (notFace_of_selects (args := #[]) (mvT hZ ow428)) Ea0 (by decide) (g := (jet m 11 (oR pa) (oi pi) [(.int pi), (.ref pa)])) rfl (by rw [hml]; rfl) (rest := []) rfl (lenOf jT rfl) rfl (W := 0) (Nat.le_of_eq rfl) (dd 7 rfl) (by decide)
 obtain ⟨rfl, N3q, eh3⟩ := hQ3
 have N3 := Fr.app N2 N3q
 refine ja st3 ?_
 refine jE X3 hx Bd hPf (by decide) (by decide) rfl rfl rfl (dd 8 rfl) ?_
 rw [eh3]
 exact ⟨rfl, N3, rfl⟩
abbrev jle (m : MethodId) (pc : Nat) (a0 a1 : Slot) (S : List Value) : JFrame := mkF m pc #[a0, a1] S
theorem oD29_69j : oDec jdk_29_method_69_code [(0, .iload_n 0, 1), (1, .iload_n 1, 1), (2, .if_icmp .gt 7, 3), (5, .iload_n 0, 1), (6, .goto 4, 3), (9, .iload_n 1, 1), (10, .ireturn, 1)] := by decide +kernel
def jhb (Z : State)  (h0 : Heap) (n0 : Nat) (v : Option Value) (h : Heap) (L : List Loc) : Prop := v = some (.int 1) ∧ Fr n0 L ∧ h = h0
theorem jeV (l : Launch) (Z : State) (a0 : Array Value) (hw : oH a0 Z) (ws : List Jvm.Cond)  (h0 : Heap) (n0 : Nat) (Z0 : n0 ≤ h0.size) :
  ji l Z M4' jdk_29_method_69_code 2 (some .int) ws ({ frames := 0, cells := 0, slots := 0, locals := 0 } : Room) #[(.int 10), (.int 1)] h0 (jhb Z  h0 n0) := by
 refine jb (Jvm.Free.JP.mathPlain rfl (by decide +kernel)) (fun m => jbk m (10 : Int32) (1 : Int32)) ?_
 intro p e s m below meth c s₁ Bd hx hby hml hown hZ X0 e0 Pf hPf
 have N0 := Fr.nil n0
 have dd := oD29_69j.hb hby
 refine ja (A := oW p e below s₁ (jle m 10 (oi 10) (oi 1) [(.int 1)])) (fun t k => by
  refine XS.iloadN X0.here hx rfl (dd 0 rfl) rfl ?_
  refine XS.iloadN X0.here hx rfl (dd 1 rfl) rfl ?_
  refine XS.icmpYes X0.here hx rfl (pc0 := 2) (pc' := 9) rfl (dd 2 rfl) rfl (tlt (by decide : (1 : Int32) < (10 : Int32))).2.2.1 (by decide) (by decide) ?_
  refine XS.iloadN X0.here hx rfl (dd 5 rfl) rfl ?_
  exact k) ?_
 refine jaD X0 hx Bd hPf (by decide) (by decide) (dd 6 rfl) ?_
 rw [e0]
 exact ⟨rfl, N0, rfl⟩
abbrev jaR (m : MethodId) (pc : Nat) (a0 a1 a2 a3 : Slot) (S : List Value) : JFrame := mkF m pc #[a0, a1, a2, a3] S
theorem oD65_120j : oDec jdk_65_method_120_code [(0, .aload_n 2, 1), (1, .ldc 110, 2), (3, .if_acmp .ne 10, 3), (6, .iload_n 1, 1), (7, .anewarray 2, 3), (10, .goto 14, 3), (13, .aload_n 2, 1), (14, .invokevirtual 90, 3), (17, .iload_n 1, 1), (18, .invokestatic 95, 3), (21, .checkcast 110, 3), (24, .astore_n 3, 1), (25, .aload_n 0, 1), (26, .iconst 0, 1), (27, .aload_n 3, 1), (28, .iconst 0, 1), (29, .aload_n 0, 1), (30, .arraylength, 1), (31, .iload_n 1, 1), (32, .invokestatic 304, 3), (35, .invokestatic 150, 3), (38, .aload_n 3, 1), (39, .areturn, 1)] := by decide +kernel
theorem jcl (m : MethodId) (x0 : Addr) (x1 : Int32) (x2 : Addr) : entryFrame m #[(.ref x0), (.int x1), (.ref x2)] 4 = mkF m 0 #[(oR x0), (oi x1), (oR x2), ou] [] := by first | (simp [entryFrame, mkF, argsToLocals, Value.category]; done) | rfl
def jeW (Z : State) (ea : Addr) (mo : Addr) (ke : ClassId) (x0a : Addr) (h0 : Heap) (n0 : Nat) (v : Option Value) (h : Heap) (L : List Loc) : Prop := ∃ (na : Addr) (kn : ClassId), v = some (.ref na) ∧ Fr n0 L ∧ Keep h0 h [] ∧ h0.size ≤ na ∧ Exa Z h na S4' ∧ Ovr Z kn S0' ∧ Arv Z h na kn (.object S0') (1 : Int32) [(.ref x0a)] .null
theorem jP : plainName "java/util/Arrays" = true := by first | (simp [plainName, overriddenIn]; done) | decide +kernel
theorem jeu (l : Launch) (Z : State) (a0 : Array Value) (hw : oH a0 Z) (ws : List Jvm.Cond) (ea : Addr) (mo : Addr) (ke : ClassId) (x0a : Addr) (h0 : Heap) (n0 : Nat) (Z0 : n0 ≤ h0.size) (hmo : Mir Z S4' mo) (Eo0 : Exa Z h0 ea S4') (Vo0 : Arv Z h0 ea ke (.object S0') (10 : Int32) [(.ref x0a), .null, .null, .null, .null, .null, .null, .null, .null, .null] .null) (Ex0 : Exa Z h0 x0a S2') :
  ji l Z M5' jdk_65_method_120_code 4 (some (.array (.object S0'))) ws ({ frames := 1, cells := 1, slots := 1, locals := 64 } : Room) #[(.ref ea), (.int 1), (.ref mo)] h0 (jeW Z ea mo ke x0a h0 n0) := by
 refine jb (plainFor_of_name jP) (fun m => jcl m ea (1 : Int32) mo) ?_
 intro p e s m below meth c s₁ Bd hx hby hml hown hZ X0 e0 Pf hPf
 have N0 := Fr.nil n0
 have dd := oD65_120j.hb hby
 have ow81 := ow hw 81 rfl
 have ow84 := ow hw 84 rfl
 have ow85 := ow hw 85 rfl
 have ow209 := ow hw 209 rfl
 have ow210 := ow hw 210 rfl
 have ow211 := ow hw 211 rfl
 have ow212 := ow hw 212 rfl
 have ow213 := ow hw 213 rfl
 have ow214 := ow hw 214 rfl
 have ow215 := ow hw 215 rfl
 have ow216 := ow hw 216 rfl
 have ow217 := ow hw 217 rfl
 refine ja (A := oW p e below s₁ (jaR m 1 (oR ea) (oi 1) (oR mo) ou [(.ref mo)])) (fun t k => by
  refine XS.aloadN X0.here hx rfl (dd 0 rfl) rfl rfl ?_
  exact k) ?_
 obtain ⟨T1, X1, e1, st1⟩ := jcK X0 hx hZ hown ow209 e0 hmo (g := (jaR m 1 (oR ea) (oi 1) (oR mo) ou [(.ref mo)])) rfl (dd 1 rfl)
 refine ja st1 ?_
 refine ja (A := oW p e below T1 (jaR m 7 (oR ea) (oi 1) (oR mo) ou [(.int 1)])) (fun t k => by
  refine Jvm.RoadKit.acmp (g := (jaR m 3 (oR ea) (oi 1) (oR mo) ou [(.ref mo), (.ref mo)])) X1 hx rfl rfl rfl (pc0 := 3) (pc' := 6) (same := true) rfl (dd 2 rfl) rfl (decide_eq_true rfl) (by decide) (by decide) ?_
  refine XS.iloadN X1.here hx rfl (dd 3 rfl) rfl ?_
  exact k) ?_
 obtain ⟨T2, h2, k2, X2, e2, E2, A2, Q2, O2, st2⟩ := newRE X1 hx hZ hown ow210 ow84 e1 (g := (jaR m 7 (oR ea) (oi 1) (oR mo) ou [(.int 1)])) rfl (dd 4 rfl) rfl (by decide) (cap := 1) (by decide) (by decide) (by decide) (by decide) (ad := S4') (by decide)
 obtain ⟨b2, g2⟩ : ∃ z, z = h0.size := ⟨_, rfl⟩
 rw [← g2] at A2 Q2 st2
 refine ja st2 ?_
 have ne_ea_b2 : ea ≠ b2 := Nat.ne_of_lt (Nat.lt_of_lt_of_le Eo0.lt (Nat.le_of_eq g2.symm))
 have ne_x0a_b2 : x0a ≠ b2 := Nat.ne_of_lt (Nat.lt_of_lt_of_le Ex0.lt (Nat.le_of_eq g2.symm))
 have g_b2 : n0 ≤ b2 := Nat.le_trans Z0 (Nat.le_of_eq g2.symm)
 have Z2 : n0 ≤ h2.size := Nat.le_trans Z0 E2.1
 have sz_b2 : h0.size ≤ b2 := Nat.le_trans (Keep.refl h0 []).1 (Nat.le_of_eq g2.symm)
 have K2 : Keep h0 h2 [] := (Keep.refl h0 []).ext E2
 have U2 : Arv Z h2 b2 k2 (.object S0') (1 : Int32) [] .null := Arv.new A2 (by decide)
 have V2 : Arv Z h2 b2 k2 (.object S0') (1 : Int32) [.null] .null := U2.pad (pad_rep [] .null 1)
 refine ja (A := oW p e below T2 (jaR m 32 (oR ea) (oi 1) (oR mo) (oR b2) [(.int 1), (.int 10), (.int 0), (.ref b2), (.int 0), (.ref ea)])) (fun t k => by
  refine XS.goto X2.here hx rfl (pc0 := 10) (pc' := 24) rfl (dd 5 rfl) (by decide) (by decide) ?_
  refine XS.astoreN X2.here hx rfl (dd 11 rfl) rfl rfl (l' := #[(oR ea), (oi 1), (oR mo), (oR b2)]) rfl ?_
  show oW p e below T2 (jaR m 25 (oR ea) (oi 1) (oR mo) (oR b2) []) _
  refine XS.aloadN X2.here hx rfl (dd 12 rfl) rfl rfl ?_
  refine XS.iconst X2.here hx rfl (dd 13 rfl) ?_
  refine XS.aloadN X2.here hx rfl (dd 14 rfl) rfl rfl ?_
  refine XS.iconst X2.here hx rfl (dd 15 rfl) ?_
  refine XS.aloadN X2.here hx rfl (dd 16 rfl) rfl rfl ?_
  show oW p e below T2 (jaR m 30 (oR ea) (oi 1) (oR mo) (oR b2) [(.ref ea), (.int 0), (.ref b2), (.int 0), (.ref ea)]) _
  refine jM X2 hx hZ e2 (Vo0.ext E2) (g := (jaR m 30 (oR ea) (oi 1) (oR mo) (oR b2) [(.ref ea), (.int 0), (.ref b2), (.int 0), (.ref ea)])) rfl rfl (dd 17 rfl) _ ?_
  refine XS.iloadN X2.here hx rfl (dd 18 rfl) rfl ?_
  exact k) ?_
 obtain ⟨_, T3, L3, X3, hQ3, st3⟩ := jH X2 hx hZ hown ow211 ow212 ow213 ow81 (jeV l Z a0 hw []  h2 n0 Z2 ) e2 (by decide) (g := (jaR m 32 (oR ea) (oi 1) (oR mo) (oR b2) [(.int 1), (.int 10), (.int 0), (.ref b2), (.int 0), (.ref ea)])) rfl (by rw [hml]; rfl) (rest := [(.int 0), (.ref b2), (.int 0), (.ref ea)]) rfl (lenOf jaG rfl) rfl (W := 4) (Nat.le_of_eq rfl) (dd 19 rfl) (by decide)
 obtain ⟨rfl, N3q, eh3⟩ := hQ3
 have N3 := Fr.app N0 N3q
 refine ja st3 ?_
 obtain ⟨T4, h4, L4, X4, e4, N4, Kc4, A4, st4⟩ := cpA X3 hx hZ hown ow214 ow217 ow215 ow216 eh3 (Vo0.ext E2) V2 (us := [(.ref x0a)]) (Or.inr ⟨rfl, rfl, ⟨jcr V2 O2 (Ins.of_exa (Ex0.ext E2) ow85), trivial⟩⟩) (by decide) (by decide) (by decide) (by decide) (by decide) rfl (by decide) N3 g_b2 (g := (jaR m 35 (oR ea) (oi 1) (oR mo) (oR b2) [(.int 1), (.int 0), (.ref b2), (.int 0), (.ref ea)])) rfl (by rw [hml]; rfl) rfl (dd 20 rfl) (by decide) (W := 0) (by show 2 * 0 + _ ≤ _; exact Nat.le_of_eq rfl) (by decide)
 refine ja st4 ?_
 have V4 : Arv Z h4 b2 k2 (.object S0') (1 : Int32) [(.ref x0a)] .null := A4
 have f4_1 := (Vo0.ext E2).keep Kc4 (ninS ne_ea_b2 nin0)
 have f4_3 := V4
 have Z4 : n0 ≤ h4.size := Nat.le_trans Z2 Kc4.1
 have K4 : Keep h0 h4 [] := K2.trans Kc4 (allS (Or.inr sz_b2) all0)
 refine ja (A := oW p e below T4 (jaR m 39 (oR ea) (oi 1) (oR mo) (oR b2) [(.ref b2)])) (fun t k => by
  refine XS.aloadN X4.here hx rfl (dd 21 rfl) rfl rfl ?_
  exact k) ?_
 refine jE X4 hx Bd hPf (by decide) (by decide) rfl rfl rfl (dd 22 rfl) ?_
 rw [e4]
 exact ⟨b2, k2, rfl, N4, K4, sz_b2, (Q2.keep Kc4), O2, V4⟩
abbrev jdU (m : MethodId) (pc : Nat) (a0 a1 : Slot) (S : List Value) : JFrame := mkF m pc #[a0, a1] S
theorem oD65_119j : oDec jdk_65_method_119_code [(0, .aload_n 0, 1), (1, .iload_n 1, 1), (2, .aload_n 0, 1), (3, .invokevirtual 86, 3), (6, .invokestatic 300, 3), (9, .areturn, 1)] := by decide +kernel
theorem jl : parseMethodDescriptor "([Ljava/lang/Object;ILjava/lang/Class;)[Ljava/lang/Object;" = some ⟨[(.array (.object "java/lang/Object")), .int, (.object "java/lang/Class")], some (.array (.object "java/lang/Object"))⟩ := by decide +kernel
def jeX (Z : State) (ea : Addr) (mo : Addr) (ke : ClassId) (x0a : Addr) (h0 : Heap) (n0 : Nat) (v : Option Value) (h : Heap) (L : List Loc) : Prop := ∃ (na : Addr) (kn : ClassId), v = some (.ref na) ∧ Fr n0 L ∧ Keep h0 h [] ∧ h0.size ≤ na ∧ Exa Z h na S4' ∧ Ovr Z kn S0' ∧ Arv Z h na kn (.object S0') (1 : Int32) [(.ref x0a)] .null
theorem jev (l : Launch) (Z : State) (a0 : Array Value) (hw : oH a0 Z) (ws : List Jvm.Cond) (ea : Addr) (mo : Addr) (ke : ClassId) (x0a : Addr) (h0 : Heap) (n0 : Nat) (Z0 : n0 ≤ h0.size) (hmo : Mir Z S4' mo) (Eo0 : Exa Z h0 ea S4') (Vo0 : Arv Z h0 ea ke (.object S0') (10 : Int32) [(.ref x0a), .null, .null, .null, .null, .null, .null, .null, .null, .null] .null) (Ex0 : Exa Z h0 x0a S2') :
  ji l Z M6' jdk_65_method_119_code 2 (some (.array (.object S0'))) ws ({ frames := 2, cells := 1, slots := 1, locals := 79 } : Room) #[(.ref ea), (.int 1)] h0 (jeX Z ea mo ke x0a h0 n0) := by
 refine jb (plainFor_of_name jP) (fun m => jas m ea (1 : Int32)) ?_
 intro p e s m below meth c s₁ Bd hx hby hml hown hZ X0 e0 Pf hPf
 have N0 := Fr.nil n0
 have dd := oD65_119j.hb hby
 have ow177 := ow hw 177 rfl
 have ow198 := ow hw 198 rfl
 have ow200 := ow hw 200 rfl
 have ow201 := ow hw 201 rfl
 have ow202 := ow hw 202 rfl
 have ow203 := ow hw 203 rfl
 have ow204 := ow hw 204 rfl
 have ow206 := ow hw 206 rfl
 have ow207 := ow hw 207 rfl
 have ow208 := ow hw 208 rfl
 refine ja (A := oW p e below s₁ (jdU m 3 (oR ea) (oi 1) [(.ref ea), (.int 1), (.ref ea)])) (fun t k => by
  refine XS.aloadN X0.here hx rfl (dd 0 rfl) rfl rfl ?_
  refine XS.iloadN X0.here hx rfl (dd 1 rfl) rfl ?_
  refine XS.aloadN X0.here hx rfl (dd 2 rfl) rfl rfl ?_
  exact k) ?_
 obtain ⟨T1, X1, e1, st1⟩ := gcls X0 hx hZ hown ow200 ow201 ow177 ow203 ow202 ow204 e0 Eo0 hmo (g := (jdU m 3 (oR ea) (oi 1) [(.ref ea), (.int 1), (.ref ea)])) rfl (by rw [hml]; rfl) rfl (dd 3 rfl) (by decide) (W := 2) (by show 2 * 0 + _ ≤ _; exact Nat.le_of_eq rfl) (by decide)
 refine ja st1 ?_
 obtain ⟨_, T2, L2, X2, hQ2, st2⟩ := jH X1 hx hZ hown ow206 ow207 ow208 ow198 (jeu l Z a0 hw [] ea mo ke x0a h0 n0 Z0 hmo Eo0 Vo0 Ex0) e1 (by decide) (g := (jdU m 6 (oR ea) (oi 1) [(.ref mo), (.int 1), (.ref ea)])) rfl (by rw [hml]; rfl) (rest := []) rfl (lenOf jl rfl) rfl (W := 0) (Nat.le_of_eq rfl) (dd 4 rfl) (by decide)
 obtain ⟨na, kn, rfl, N2q, K2q, s_na, p2_0, p2_1, p2_2⟩ := hQ2
 have N2 := Fr.app N0 N2q
 have g_na : n0 ≤ na := Nat.le_trans Z0 s_na
 have sz_na : h0.size ≤ na := Nat.le_trans (Keep.refl h0 []).1 s_na
 have ne_ea_na : ea ≠ na := Nat.ne_of_lt (Nat.lt_of_lt_of_le Eo0.lt s_na)
 have ne_x0a_na : x0a ≠ na := Nat.ne_of_lt (Nat.lt_of_lt_of_le Ex0.lt s_na)
 have f2_1 := Vo0.keep K2q nin0
 have Z2 : n0 ≤ T2.heap.size := Nat.le_trans Z0 K2q.1
 have K2 : Keep h0 T2.heap [] := (Keep.refl h0 []).trans K2q all0
 refine ja st2 ?_
 refine jE X2 hx Bd hPf (by decide) (by decide) rfl rfl rfl (dd 5 rfl) ?_
 exact ⟨na, kn, rfl, N2, K2, sz_na, p2_0, p2_1, p2_2⟩
abbrev jdq (m : MethodId) (pc : Nat) (a0 : Slot) (S : List Value) : JFrame := mkF m pc #[a0] S
theorem oD38_16j : oDec jdk_38_method_16_code [(0, .aload_n 0, 1), (1, .getfield 9, 3), (4, .aload_n 0, 1), (5, .getfield 48, 3), (8, .invokestatic 66, 3), (11, .areturn, 1)] := by decide +kernel
theorem jz : parseMethodDescriptor "([Ljava/lang/Object;I)[Ljava/lang/Object;" = some ⟨[(.array (.object "java/lang/Object")), .int], some (.array (.object "java/lang/Object"))⟩ := by decide +kernel
def jhc (Z : State) (pa : Addr) (mo ea : Addr) (ke : ClassId) (x0a : Addr) (h0 : Heap) (n0 : Nat) (v : Option Value) (h : Heap) (L : List Loc) : Prop := ∃ (na : Addr) (kn : ClassId), v = some (.ref na) ∧ Fr n0 L ∧ Keep h0 h [] ∧ h0.size ≤ na ∧ Exa Z h na S4' ∧ Ovr Z kn S0' ∧ Arv Z h na kn (.object S0') (1 : Int32) [(.ref x0a)] .null
theorem jeY (l : Launch) (Z : State) (a0 : Array Value) (hw : oH a0 Z) (ws : List Jvm.Cond) (pa : Addr) (mo ea : Addr) (ke : ClassId) (x0a : Addr) (h0 : Heap) (n0 : Nat) (Z0 : n0 ≤ h0.size) (hmo : Mir Z S4' mo) (Ea0 : Exa Z h0 pa S3') (Fe0 : Fld Z h0 pa S3' S15' S4' (.ref ea)) (Fs0 : Fld Z h0 pa S3' S8' "I" (.int 1)) (Eo0 : Exa Z h0 ea S4') (Vo0 : Arv Z h0 ea ke (.object S0') (10 : Int32) [(.ref x0a), .null, .null, .null, .null, .null, .null, .null, .null, .null] .null) (Ex0 : Exa Z h0 x0a S2') :
  ji l Z M7' jdk_38_method_16_code 1 (some (.array (.object S0'))) ws ({ frames := 3, cells := 1, slots := 1, locals := 92 } : Room) #[(.ref pa)] h0 (jhc Z pa mo ea ke x0a h0 n0) := by
 refine jb (plainFor_of_name jf) (fun m => jr m pa) ?_
 intro p e s m below meth c s₁ Bd hx hby hml hown hZ X0 e0 Pf hPf
 have N0 := Fr.nil n0
 have dd := oD38_16j.hb hby
 have ow25 := ow hw 25 rfl
 have ow62 := ow hw 62 rfl
 have ow196 := ow hw 196 rfl
 have ow197 := ow hw 197 rfl
 have ow198 := ow hw 198 rfl
 have ow199 := ow hw 199 rfl
 refine ja (A := oW p e below s₁ (jdq m 1 (oR pa) [(.ref pa)])) (fun t k => by
  refine XS.aloadN X0.here hx rfl (dd 0 rfl) rfl rfl ?_
  exact k) ?_
 obtain ⟨T1, X1, e1, st1⟩ := getF X0 hx hZ hown (host := "") (Or.inl ow25) Via.refl e0 Fe0 (g := (jdq m 1 (oR pa) [(.ref pa)])) rfl rfl (dd 1 rfl)
 refine ja st1 ?_
 refine ja (A := oW p e below T1 (jdq m 5 (oR pa) [(.ref pa), (.ref ea)])) (fun t k => by
  refine XS.aloadN X1.here hx rfl (dd 2 rfl) rfl rfl ?_
  exact k) ?_
 obtain ⟨T2, X2, e2, st2⟩ := getF X1 hx hZ hown (host := "") (Or.inl ow62) Via.refl e1 Fs0 (g := (jdq m 5 (oR pa) [(.ref pa), (.ref ea)])) rfl rfl (dd 3 rfl)
 refine ja st2 ?_
 obtain ⟨_, T3, L3, X3, hQ3, st3⟩ := jH X2 hx hZ hown ow196 ow197 ow199 ow198 (jev l Z a0 hw [] ea mo ke x0a h0 n0 Z0 hmo Eo0 Vo0 Ex0) e2 (by decide) (g := (jdq m 8 (oR pa) [(.int 1), (.ref ea)])) rfl (by rw [hml]; rfl) (rest := []) rfl (lenOf jz rfl) rfl (W := 0) (Nat.le_of_eq rfl) (dd 4 rfl) (by decide)
 obtain ⟨na, kn, rfl, N3q, K3q, s_na, p3_0, p3_1, p3_2⟩ := hQ3
 have N3 := Fr.app N0 N3q
 have g_na : n0 ≤ na := Nat.le_trans Z0 s_na
 have sz_na : h0.size ≤ na := Nat.le_trans (Keep.refl h0 []).1 s_na
 have ne_pa_na : pa ≠ na := Nat.ne_of_lt (Nat.lt_of_lt_of_le Ea0.lt s_na)
 have ne_ea_na : ea ≠ na := Nat.ne_of_lt (Nat.lt_of_lt_of_le Eo0.lt s_na)
 have ne_x0a_na : x0a ≠ na := Nat.ne_of_lt (Nat.lt_of_lt_of_le Ex0.lt s_na)
 have f3_1 := Fe0.keep K3q nin0
 have f3_2 := Fs0.keep K3q nin0
 have f3_4 := Vo0.keep K3q nin0
 have Z3 : n0 ≤ T3.heap.size := Nat.le_trans Z0 K3q.1
 have K3 : Keep h0 T3.heap [] := (Keep.refl h0 []).trans K3q all0
 refine ja st3 ?_
 refine jE X3 hx Bd hPf (by decide) (by decide) rfl rfl rfl (dd 5 rfl) ?_
 exact ⟨na, kn, rfl, N3, K3, sz_na, p3_0, p3_1, p3_2⟩
abbrev jlf (m : MethodId) (pc : Nat) (a0 a1 : Slot) (S : List Value) : JFrame := mkF m pc #[a0, a1] S
def jhd (Z : State)  (h0 : Heap) (n0 : Nat) (v : Option Value) (h : Heap) (L : List Loc) : Prop := v = some (.int 2) ∧ Fr n0 L ∧ h = h0
theorem jeZ (l : Launch) (Z : State) (a0 : Array Value) (hw : oH a0 Z) (ws : List Jvm.Cond)  (h0 : Heap) (n0 : Nat) (Z0 : n0 ≤ h0.size) :
  ji l Z M4' jdk_29_method_69_code 2 (some .int) ws ({ frames := 0, cells := 0, slots := 0, locals := 0 } : Room) #[(.int 10), (.int 2)] h0 (jhd Z  h0 n0) := by
 refine jb (Jvm.Free.JP.mathPlain rfl (by decide +kernel)) (fun m => jbk m (10 : Int32) (2 : Int32)) ?_
 intro p e s m below meth c s₁ Bd hx hby hml hown hZ X0 e0 Pf hPf
 have N0 := Fr.nil n0
 have dd := oD29_69j.hb hby
 refine ja (A := oW p e below s₁ (jlf m 10 (oi 10) (oi 2) [(.int 2)])) (fun t k => by
  refine XS.iloadN X0.here hx rfl (dd 0 rfl) rfl ?_
  refine XS.iloadN X0.here hx rfl (dd 1 rfl) rfl ?_
  refine XS.icmpYes X0.here hx rfl (pc0 := 2) (pc' := 9) rfl (dd 2 rfl) rfl (tlt (by decide : (2 : Int32) < (10 : Int32))).2.2.1 (by decide) (by decide) ?_
  refine XS.iloadN X0.here hx rfl (dd 5 rfl) rfl ?_
  exact k) ?_
 refine jaD X0 hx Bd hPf (by decide) (by decide) (dd 6 rfl) ?_
 rw [e0]
 exact ⟨rfl, N0, rfl⟩
abbrev jaS (m : MethodId) (pc : Nat) (a0 a1 a2 a3 : Slot) (S : List Value) : JFrame := mkF m pc #[a0, a1, a2, a3] S
def jfa (Z : State) (ea : Addr) (mo : Addr) (ke : ClassId) (x0a x1a : Addr) (h0 : Heap) (n0 : Nat) (v : Option Value) (h : Heap) (L : List Loc) : Prop := ∃ (na : Addr) (kn : ClassId), v = some (.ref na) ∧ Fr n0 L ∧ Keep h0 h [] ∧ h0.size ≤ na ∧ Exa Z h na S4' ∧ Ovr Z kn S0' ∧ Arv Z h na kn (.object S0') (2 : Int32) [(.ref x0a), (.ref x1a)] .null
theorem jew (l : Launch) (Z : State) (a0 : Array Value) (hw : oH a0 Z) (ws : List Jvm.Cond) (ea : Addr) (mo : Addr) (ke : ClassId) (x0a x1a : Addr) (h0 : Heap) (n0 : Nat) (Z0 : n0 ≤ h0.size) (hmo : Mir Z S4' mo) (Eo0 : Exa Z h0 ea S4') (Vo0 : Arv Z h0 ea ke (.object S0') (10 : Int32) [(.ref x0a), (.ref x1a), .null, .null, .null, .null, .null, .null, .null, .null] .null) (Ex0 : Exa Z h0 x0a S2') (Ex1 : Exa Z h0 x1a S2') :
  ji l Z M5' jdk_65_method_120_code 4 (some (.array (.object S0'))) ws ({ frames := 1, cells := 1, slots := 2, locals := 64 } : Room) #[(.ref ea), (.int 2), (.ref mo)] h0 (jfa Z ea mo ke x0a x1a h0 n0) := by
 refine jb (plainFor_of_name jP) (fun m => jcl m ea (2 : Int32) mo) ?_
 intro p e s m below meth c s₁ Bd hx hby hml hown hZ X0 e0 Pf hPf
 have N0 := Fr.nil n0
 have dd := oD65_120j.hb hby
 have ow81 := ow hw 81 rfl
 have ow84 := ow hw 84 rfl
 have ow85 := ow hw 85 rfl
 have ow209 := ow hw 209 rfl
 have ow210 := ow hw 210 rfl
 have ow211 := ow hw 211 rfl
 have ow212 := ow hw 212 rfl
 have ow213 := ow hw 213 rfl
 have ow214 := ow hw 214 rfl
 have ow215 := ow hw 215 rfl
 have ow216 := ow hw 216 rfl
 have ow217 := ow hw 217 rfl
 refine ja (A := oW p e below s₁ (jaS m 1 (oR ea) (oi 2) (oR mo) ou [(.ref mo)])) (fun t k => by
  refine XS.aloadN X0.here hx rfl (dd 0 rfl) rfl rfl ?_
  exact k) ?_
 obtain ⟨T1, X1, e1, st1⟩ := jcK X0 hx hZ hown ow209 e0 hmo (g := (jaS m 1 (oR ea) (oi 2) (oR mo) ou [(.ref mo)])) rfl (dd 1 rfl)
 refine ja st1 ?_
 refine ja (A := oW p e below T1 (jaS m 7 (oR ea) (oi 2) (oR mo) ou [(.int 2)])) (fun t k => by
  refine Jvm.RoadKit.acmp (g := (jaS m 3 (oR ea) (oi 2) (oR mo) ou [(.ref mo), (.ref mo)])) X1 hx rfl rfl rfl (pc0 := 3) (pc' := 6) (same := true) rfl (dd 2 rfl) rfl (decide_eq_true rfl) (by decide) (by decide) ?_
  refine XS.iloadN X1.here hx rfl (dd 3 rfl) rfl ?_
  exact k) ?_
 obtain ⟨T2, h2, k2, X2, e2, E2, A2, Q2, O2, st2⟩ := newRE X1 hx hZ hown ow210 ow84 e1 (g := (jaS m 7 (oR ea) (oi 2) (oR mo) ou [(.int 2)])) rfl (dd 4 rfl) rfl (by decide) (cap := 2) (by decide) (by decide) (by decide) (by decide) (ad := S4') (by decide)
 obtain ⟨b2, g2⟩ : ∃ z, z = h0.size := ⟨_, rfl⟩
 rw [← g2] at A2 Q2 st2
 refine ja st2 ?_
 have ne_ea_b2 : ea ≠ b2 := Nat.ne_of_lt (Nat.lt_of_lt_of_le Eo0.lt (Nat.le_of_eq g2.symm))
 have ne_x0a_b2 : x0a ≠ b2 := Nat.ne_of_lt (Nat.lt_of_lt_of_le Ex0.lt (Nat.le_of_eq g2.symm))
 have ne_x1a_b2 : x1a ≠ b2 := Nat.ne_of_lt (Nat.lt_of_lt_of_le Ex1.lt (Nat.le_of_eq g2.symm))
 have g_b2 : n0 ≤ b2 := Nat.le_trans Z0 (Nat.le_of_eq g2.symm)
 have Z2 : n0 ≤ h2.size := Nat.le_trans Z0 E2.1
 have sz_b2 : h0.size ≤ b2 := Nat.le_trans (Keep.refl h0 []).1 (Nat.le_of_eq g2.symm)
 have K2 : Keep h0 h2 [] := (Keep.refl h0 []).ext E2
 have U2 : Arv Z h2 b2 k2 (.object S0') (2 : Int32) [] .null := Arv.new A2 (by decide)
 have V2 : Arv Z h2 b2 k2 (.object S0') (2 : Int32) [.null, .null] .null := U2.pad (pad_rep [] .null 2)
 refine ja (A := oW p e below T2 (jaS m 32 (oR ea) (oi 2) (oR mo) (oR b2) [(.int 2), (.int 10), (.int 0), (.ref b2), (.int 0), (.ref ea)])) (fun t k => by
  refine XS.goto X2.here hx rfl (pc0 := 10) (pc' := 24) rfl (dd 5 rfl) (by decide) (by decide) ?_
  refine XS.astoreN X2.here hx rfl (dd 11 rfl) rfl rfl (l' := #[(oR ea), (oi 2), (oR mo), (oR b2)]) rfl ?_
  show oW p e below T2 (jaS m 25 (oR ea) (oi 2) (oR mo) (oR b2) []) _
  refine XS.aloadN X2.here hx rfl (dd 12 rfl) rfl rfl ?_
  refine XS.iconst X2.here hx rfl (dd 13 rfl) ?_
  refine XS.aloadN X2.here hx rfl (dd 14 rfl) rfl rfl ?_
  refine XS.iconst X2.here hx rfl (dd 15 rfl) ?_
  refine XS.aloadN X2.here hx rfl (dd 16 rfl) rfl rfl ?_
  show oW p e below T2 (jaS m 30 (oR ea) (oi 2) (oR mo) (oR b2) [(.ref ea), (.int 0), (.ref b2), (.int 0), (.ref ea)]) _
  refine jM X2 hx hZ e2 (Vo0.ext E2) (g := (jaS m 30 (oR ea) (oi 2) (oR mo) (oR b2) [(.ref ea), (.int 0), (.ref b2), (.int 0), (.ref ea)])) rfl rfl (dd 17 rfl) _ ?_
  refine XS.iloadN X2.here hx rfl (dd 18 rfl) rfl ?_
  exact k) ?_
 obtain ⟨_, T3, L3, X3, hQ3, st3⟩ := jH X2 hx hZ hown ow211 ow212 ow213 ow81 (jeZ l Z a0 hw []  h2 n0 Z2 ) e2 (by decide) (g := (jaS m 32 (oR ea) (oi 2) (oR mo) (oR b2) [(.int 2), (.int 10), (.int 0), (.ref b2), (.int 0), (.ref ea)])) rfl (by rw [hml]; rfl) (rest := [(.int 0), (.ref b2), (.int 0), (.ref ea)]) rfl (lenOf jaG rfl) rfl (W := 4) (Nat.le_of_eq rfl) (dd 19 rfl) (by decide)
 obtain ⟨rfl, N3q, eh3⟩ := hQ3
 have N3 := Fr.app N0 N3q
 refine ja st3 ?_
 obtain ⟨T4, h4, L4, X4, e4, N4, Kc4, A4, st4⟩ := cpA X3 hx hZ hown ow214 ow217 ow215 ow216 eh3 (Vo0.ext E2) V2 (us := [(.ref x0a), (.ref x1a)]) (Or.inr ⟨rfl, rfl, ⟨jcr V2 O2 (Ins.of_exa (Ex0.ext E2) ow85), ⟨jcr V2 O2 (Ins.of_exa (Ex1.ext E2) ow85), trivial⟩⟩⟩) (by decide) (by decide) (by decide) (by decide) (by decide) rfl (by decide) N3 g_b2 (g := (jaS m 35 (oR ea) (oi 2) (oR mo) (oR b2) [(.int 2), (.int 0), (.ref b2), (.int 0), (.ref ea)])) rfl (by rw [hml]; rfl) rfl (dd 20 rfl) (by decide) (W := 0) (by show 2 * 0 + _ ≤ _; exact Nat.le_of_eq rfl) (by decide)
 refine ja st4 ?_
 have V4 : Arv Z h4 b2 k2 (.object S0') (2 : Int32) [(.ref x0a), (.ref x1a)] .null := A4
 have f4_1 := (Vo0.ext E2).keep Kc4 (ninS ne_ea_b2 nin0)
 have f4_4 := V4
 have Z4 : n0 ≤ h4.size := Nat.le_trans Z2 Kc4.1
 have K4 : Keep h0 h4 [] := K2.trans Kc4 (allS (Or.inr sz_b2) all0)
 refine ja (A := oW p e below T4 (jaS m 39 (oR ea) (oi 2) (oR mo) (oR b2) [(.ref b2)])) (fun t k => by
  refine XS.aloadN X4.here hx rfl (dd 21 rfl) rfl rfl ?_
  exact k) ?_
 refine jE X4 hx Bd hPf (by decide) (by decide) rfl rfl rfl (dd 22 rfl) ?_
 rw [e4]
 exact ⟨b2, k2, rfl, N4, K4, sz_b2, (Q2.keep Kc4), O2, V4⟩
abbrev jdV (m : MethodId) (pc : Nat) (a0 a1 : Slot) (S : List Value) : JFrame := mkF m pc #[a0, a1] S
def jfb (Z : State) (ea : Addr) (mo : Addr) (ke : ClassId) (x0a x1a : Addr) (h0 : Heap) (n0 : Nat) (v : Option Value) (h : Heap) (L : List Loc) : Prop := ∃ (na : Addr) (kn : ClassId), v = some (.ref na) ∧ Fr n0 L ∧ Keep h0 h [] ∧ h0.size ≤ na ∧ Exa Z h na S4' ∧ Ovr Z kn S0' ∧ Arv Z h na kn (.object S0') (2 : Int32) [(.ref x0a), (.ref x1a)] .null
theorem jex (l : Launch) (Z : State) (a0 : Array Value) (hw : oH a0 Z) (ws : List Jvm.Cond) (ea : Addr) (mo : Addr) (ke : ClassId) (x0a x1a : Addr) (h0 : Heap) (n0 : Nat) (Z0 : n0 ≤ h0.size) (hmo : Mir Z S4' mo) (Eo0 : Exa Z h0 ea S4') (Vo0 : Arv Z h0 ea ke (.object S0') (10 : Int32) [(.ref x0a), (.ref x1a), .null, .null, .null, .null, .null, .null, .null, .null] .null) (Ex0 : Exa Z h0 x0a S2') (Ex1 : Exa Z h0 x1a S2') :
  ji l Z M6' jdk_65_method_119_code 2 (some (.array (.object S0'))) ws ({ frames := 2, cells := 1, slots := 2, locals := 79 } : Room) #[(.ref ea), (.int 2)] h0 (jfb Z ea mo ke x0a x1a h0 n0) := by
 refine jb (plainFor_of_name jP) (fun m => jas m ea (2 : Int32)) ?_
 intro p e s m below meth c s₁ Bd hx hby hml hown hZ X0 e0 Pf hPf
 have N0 := Fr.nil n0
 have dd := oD65_119j.hb hby
 have ow177 := ow hw 177 rfl
 have ow198 := ow hw 198 rfl
 have ow200 := ow hw 200 rfl
 have ow201 := ow hw 201 rfl
 have ow202 := ow hw 202 rfl
 have ow203 := ow hw 203 rfl
 have ow204 := ow hw 204 rfl
 have ow206 := ow hw 206 rfl
 have ow207 := ow hw 207 rfl
 have ow208 := ow hw 208 rfl
 refine ja (A := oW p e below s₁ (jdV m 3 (oR ea) (oi 2) [(.ref ea), (.int 2), (.ref ea)])) (fun t k => by
  refine XS.aloadN X0.here hx rfl (dd 0 rfl) rfl rfl ?_
  refine XS.iloadN X0.here hx rfl (dd 1 rfl) rfl ?_
  refine XS.aloadN X0.here hx rfl (dd 2 rfl) rfl rfl ?_
  exact k) ?_
 obtain ⟨T1, X1, e1, st1⟩ := gcls X0 hx hZ hown ow200 ow201 ow177 ow203 ow202 ow204 e0 Eo0 hmo (g := (jdV m 3 (oR ea) (oi 2) [(.ref ea), (.int 2), (.ref ea)])) rfl (by rw [hml]; rfl) rfl (dd 3 rfl) (by decide) (W := 2) (by show 2 * 0 + _ ≤ _; exact Nat.le_of_eq rfl) (by decide)
 refine ja st1 ?_
 obtain ⟨_, T2, L2, X2, hQ2, st2⟩ := jH X1 hx hZ hown ow206 ow207 ow208 ow198 (jew l Z a0 hw [] ea mo ke x0a x1a h0 n0 Z0 hmo Eo0 Vo0 Ex0 Ex1) e1 (by decide) (g := (jdV m 6 (oR ea) (oi 2) [(.ref mo), (.int 2), (.ref ea)])) rfl (by rw [hml]; rfl) (rest := []) rfl (lenOf jl rfl) rfl (W := 0) (Nat.le_of_eq rfl) (dd 4 rfl) (by decide)
 obtain ⟨na, kn, rfl, N2q, K2q, s_na, p2_0, p2_1, p2_2⟩ := hQ2
 have N2 := Fr.app N0 N2q
 have g_na : n0 ≤ na := Nat.le_trans Z0 s_na
 have sz_na : h0.size ≤ na := Nat.le_trans (Keep.refl h0 []).1 s_na
 have ne_ea_na : ea ≠ na := Nat.ne_of_lt (Nat.lt_of_lt_of_le Eo0.lt s_na)
 have ne_x0a_na : x0a ≠ na := Nat.ne_of_lt (Nat.lt_of_lt_of_le Ex0.lt s_na)
 have ne_x1a_na : x1a ≠ na := Nat.ne_of_lt (Nat.lt_of_lt_of_le Ex1.lt s_na)
 have f2_1 := Vo0.keep K2q nin0
 have Z2 : n0 ≤ T2.heap.size := Nat.le_trans Z0 K2q.1
 have K2 : Keep h0 T2.heap [] := (Keep.refl h0 []).trans K2q all0
 refine ja st2 ?_
 refine jE X2 hx Bd hPf (by decide) (by decide) rfl rfl rfl (dd 5 rfl) ?_
 exact ⟨na, kn, rfl, N2, K2, sz_na, p2_0, p2_1, p2_2⟩
abbrev jdr (m : MethodId) (pc : Nat) (a0 : Slot) (S : List Value) : JFrame := mkF m pc #[a0] S
def jhe (Z : State) (pa : Addr) (mo ea : Addr) (ke : ClassId) (x0a x1a : Addr) (h0 : Heap) (n0 : Nat) (v : Option Value) (h : Heap) (L : List Loc) : Prop := ∃ (na : Addr) (kn : ClassId), v = some (.ref na) ∧ Fr n0 L ∧ Keep h0 h [] ∧ h0.size ≤ na ∧ Exa Z h na S4' ∧ Ovr Z kn S0' ∧ Arv Z h na kn (.object S0') (2 : Int32) [(.ref x0a), (.ref x1a)] .null
theorem jfc (l : Launch) (Z : State) (a0 : Array Value) (hw : oH a0 Z) (ws : List Jvm.Cond) (pa : Addr) (mo ea : Addr) (ke : ClassId) (x0a x1a : Addr) (h0 : Heap) (n0 : Nat) (Z0 : n0 ≤ h0.size) (hmo : Mir Z S4' mo) (Ea0 : Exa Z h0 pa S3') (Fe0 : Fld Z h0 pa S3' S15' S4' (.ref ea)) (Fs0 : Fld Z h0 pa S3' S8' "I" (.int 2)) (Eo0 : Exa Z h0 ea S4') (Vo0 : Arv Z h0 ea ke (.object S0') (10 : Int32) [(.ref x0a), (.ref x1a), .null, .null, .null, .null, .null, .null, .null, .null] .null) (Ex0 : Exa Z h0 x0a S2') (Ex1 : Exa Z h0 x1a S2') :
  ji l Z M7' jdk_38_method_16_code 1 (some (.array (.object S0'))) ws ({ frames := 3, cells := 1, slots := 2, locals := 92 } : Room) #[(.ref pa)] h0 (jhe Z pa mo ea ke x0a x1a h0 n0) := by
 refine jb (plainFor_of_name jf) (fun m => jr m pa) ?_
 intro p e s m below meth c s₁ Bd hx hby hml hown hZ X0 e0 Pf hPf
 have N0 := Fr.nil n0
 have dd := oD38_16j.hb hby
 have ow25 := ow hw 25 rfl
 have ow62 := ow hw 62 rfl
 have ow196 := ow hw 196 rfl
 have ow197 := ow hw 197 rfl
 have ow198 := ow hw 198 rfl
 have ow199 := ow hw 199 rfl
 refine ja (A := oW p e below s₁ (jdr m 1 (oR pa) [(.ref pa)])) (fun t k => by
  refine XS.aloadN X0.here hx rfl (dd 0 rfl) rfl rfl ?_
  exact k) ?_
 obtain ⟨T1, X1, e1, st1⟩ := getF X0 hx hZ hown (host := "") (Or.inl ow25) Via.refl e0 Fe0 (g := (jdr m 1 (oR pa) [(.ref pa)])) rfl rfl (dd 1 rfl)
 refine ja st1 ?_
 refine ja (A := oW p e below T1 (jdr m 5 (oR pa) [(.ref pa), (.ref ea)])) (fun t k => by
  refine XS.aloadN X1.here hx rfl (dd 2 rfl) rfl rfl ?_
  exact k) ?_
 obtain ⟨T2, X2, e2, st2⟩ := getF X1 hx hZ hown (host := "") (Or.inl ow62) Via.refl e1 Fs0 (g := (jdr m 5 (oR pa) [(.ref pa), (.ref ea)])) rfl rfl (dd 3 rfl)
 refine ja st2 ?_
 obtain ⟨_, T3, L3, X3, hQ3, st3⟩ := jH X2 hx hZ hown ow196 ow197 ow199 ow198 (jex l Z a0 hw [] ea mo ke x0a x1a h0 n0 Z0 hmo Eo0 Vo0 Ex0 Ex1) e2 (by decide) (g := (jdr m 8 (oR pa) [(.int 2), (.ref ea)])) rfl (by rw [hml]; rfl) (rest := []) rfl (lenOf jz rfl) rfl (W := 0) (Nat.le_of_eq rfl) (dd 4 rfl) (by decide)
 obtain ⟨na, kn, rfl, N3q, K3q, s_na, p3_0, p3_1, p3_2⟩ := hQ3
 have N3 := Fr.app N0 N3q
 have g_na : n0 ≤ na := Nat.le_trans Z0 s_na
 have sz_na : h0.size ≤ na := Nat.le_trans (Keep.refl h0 []).1 s_na
 have ne_pa_na : pa ≠ na := Nat.ne_of_lt (Nat.lt_of_lt_of_le Ea0.lt s_na)
 have ne_ea_na : ea ≠ na := Nat.ne_of_lt (Nat.lt_of_lt_of_le Eo0.lt s_na)
 have ne_x0a_na : x0a ≠ na := Nat.ne_of_lt (Nat.lt_of_lt_of_le Ex0.lt s_na)
 have ne_x1a_na : x1a ≠ na := Nat.ne_of_lt (Nat.lt_of_lt_of_le Ex1.lt s_na)
 have f3_1 := Fe0.keep K3q nin0
 have f3_2 := Fs0.keep K3q nin0
 have f3_4 := Vo0.keep K3q nin0
 have Z3 : n0 ≤ T3.heap.size := Nat.le_trans Z0 K3q.1
 have K3 : Keep h0 T3.heap [] := (Keep.refl h0 []).trans K3q all0
 refine ja st3 ?_
 refine jE X3 hx Bd hPf (by decide) (by decide) rfl rfl rfl (dd 5 rfl) ?_
 exact ⟨na, kn, rfl, N3, K3, sz_na, p3_0, p3_1, p3_2⟩
abbrev jlg (m : MethodId) (pc : Nat) (a0 a1 : Slot) (S : List Value) : JFrame := mkF m pc #[a0, a1] S
def jhf (Z : State)  (h0 : Heap) (n0 : Nat) (v : Option Value) (h : Heap) (L : List Loc) : Prop := v = some (.int 3) ∧ Fr n0 L ∧ h = h0
theorem jfd (l : Launch) (Z : State) (a0 : Array Value) (hw : oH a0 Z) (ws : List Jvm.Cond)  (h0 : Heap) (n0 : Nat) (Z0 : n0 ≤ h0.size) :
  ji l Z M4' jdk_29_method_69_code 2 (some .int) ws ({ frames := 0, cells := 0, slots := 0, locals := 0 } : Room) #[(.int 10), (.int 3)] h0 (jhf Z  h0 n0) := by
 refine jb (Jvm.Free.JP.mathPlain rfl (by decide +kernel)) (fun m => jbk m (10 : Int32) (3 : Int32)) ?_
 intro p e s m below meth c s₁ Bd hx hby hml hown hZ X0 e0 Pf hPf
 have N0 := Fr.nil n0
 have dd := oD29_69j.hb hby
 refine ja (A := oW p e below s₁ (jlg m 10 (oi 10) (oi 3) [(.int 3)])) (fun t k => by
  refine XS.iloadN X0.here hx rfl (dd 0 rfl) rfl ?_
  refine XS.iloadN X0.here hx rfl (dd 1 rfl) rfl ?_
  refine XS.icmpYes X0.here hx rfl (pc0 := 2) (pc' := 9) rfl (dd 2 rfl) rfl (tlt (by decide : (3 : Int32) < (10 : Int32))).2.2.1 (by decide) (by decide) ?_
  refine XS.iloadN X0.here hx rfl (dd 5 rfl) rfl ?_
  exact k) ?_
 refine jaD X0 hx Bd hPf (by decide) (by decide) (dd 6 rfl) ?_
 rw [e0]
 exact ⟨rfl, N0, rfl⟩
abbrev jaT (m : MethodId) (pc : Nat) (a0 a1 a2 a3 : Slot) (S : List Value) : JFrame := mkF m pc #[a0, a1, a2, a3] S
def jfe (Z : State) (ea : Addr) (mo : Addr) (ke : ClassId) (x0a x1a x2a : Addr) (h0 : Heap) (n0 : Nat) (v : Option Value) (h : Heap) (L : List Loc) : Prop := ∃ (na : Addr) (kn : ClassId), v = some (.ref na) ∧ Fr n0 L ∧ Keep h0 h [] ∧ h0.size ≤ na ∧ Exa Z h na S4' ∧ Ovr Z kn S0' ∧ Arv Z h na kn (.object S0') (3 : Int32) [(.ref x0a), (.ref x1a), (.ref x2a)] .null
theorem jey (l : Launch) (Z : State) (a0 : Array Value) (hw : oH a0 Z) (ws : List Jvm.Cond) (ea : Addr) (mo : Addr) (ke : ClassId) (x0a x1a x2a : Addr) (h0 : Heap) (n0 : Nat) (Z0 : n0 ≤ h0.size) (hmo : Mir Z S4' mo) (Eo0 : Exa Z h0 ea S4') (Vo0 : Arv Z h0 ea ke (.object S0') (10 : Int32) [(.ref x0a), (.ref x1a), (.ref x2a), .null, .null, .null, .null, .null, .null, .null] .null) (Ex0 : Exa Z h0 x0a S2') (Ex1 : Exa Z h0 x1a S2') (Ex2 : Exa Z h0 x2a S2') :
  ji l Z M5' jdk_65_method_120_code 4 (some (.array (.object S0'))) ws ({ frames := 1, cells := 1, slots := 3, locals := 64 } : Room) #[(.ref ea), (.int 3), (.ref mo)] h0 (jfe Z ea mo ke x0a x1a x2a h0 n0) := by
 refine jb (plainFor_of_name jP) (fun m => jcl m ea (3 : Int32) mo) ?_
 intro p e s m below meth c s₁ Bd hx hby hml hown hZ X0 e0 Pf hPf
 have N0 := Fr.nil n0
 have dd := oD65_120j.hb hby
 have ow81 := ow hw 81 rfl
 have ow84 := ow hw 84 rfl
 have ow85 := ow hw 85 rfl
 have ow209 := ow hw 209 rfl
 have ow210 := ow hw 210 rfl
 have ow211 := ow hw 211 rfl
 have ow212 := ow hw 212 rfl
 have ow213 := ow hw 213 rfl
 have ow214 := ow hw 214 rfl
 have ow215 := ow hw 215 rfl
 have ow216 := ow hw 216 rfl
 have ow217 := ow hw 217 rfl
 refine ja (A := oW p e below s₁ (jaT m 1 (oR ea) (oi 3) (oR mo) ou [(.ref mo)])) (fun t k => by
  refine XS.aloadN X0.here hx rfl (dd 0 rfl) rfl rfl ?_
  exact k) ?_
 obtain ⟨T1, X1, e1, st1⟩ := jcK X0 hx hZ hown ow209 e0 hmo (g := (jaT m 1 (oR ea) (oi 3) (oR mo) ou [(.ref mo)])) rfl (dd 1 rfl)
 refine ja st1 ?_
 refine ja (A := oW p e below T1 (jaT m 7 (oR ea) (oi 3) (oR mo) ou [(.int 3)])) (fun t k => by
  refine Jvm.RoadKit.acmp (g := (jaT m 3 (oR ea) (oi 3) (oR mo) ou [(.ref mo), (.ref mo)])) X1 hx rfl rfl rfl (pc0 := 3) (pc' := 6) (same := true) rfl (dd 2 rfl) rfl (decide_eq_true rfl) (by decide) (by decide) ?_
  refine XS.iloadN X1.here hx rfl (dd 3 rfl) rfl ?_
  exact k) ?_
 obtain ⟨T2, h2, k2, X2, e2, E2, A2, Q2, O2, st2⟩ := newRE X1 hx hZ hown ow210 ow84 e1 (g := (jaT m 7 (oR ea) (oi 3) (oR mo) ou [(.int 3)])) rfl (dd 4 rfl) rfl (by decide) (cap := 3) (by decide) (by decide) (by decide) (by decide) (ad := S4') (by decide)
 obtain ⟨b2, g2⟩ : ∃ z, z = h0.size := ⟨_, rfl⟩
 rw [← g2] at A2 Q2 st2
 refine ja st2 ?_
 have ne_ea_b2 : ea ≠ b2 := Nat.ne_of_lt (Nat.lt_of_lt_of_le Eo0.lt (Nat.le_of_eq g2.symm))
 have ne_x0a_b2 : x0a ≠ b2 := Nat.ne_of_lt (Nat.lt_of_lt_of_le Ex0.lt (Nat.le_of_eq g2.symm))
 have ne_x1a_b2 : x1a ≠ b2 := Nat.ne_of_lt (Nat.lt_of_lt_of_le Ex1.lt (Nat.le_of_eq g2.symm))
 have ne_x2a_b2 : x2a ≠ b2 := Nat.ne_of_lt (Nat.lt_of_lt_of_le Ex2.lt (Nat.le_of_eq g2.symm))
 have g_b2 : n0 ≤ b2 := Nat.le_trans Z0 (Nat.le_of_eq g2.symm)
 have Z2 : n0 ≤ h2.size := Nat.le_trans Z0 E2.1
 have sz_b2 : h0.size ≤ b2 := Nat.le_trans (Keep.refl h0 []).1 (Nat.le_of_eq g2.symm)
 have K2 : Keep h0 h2 [] := (Keep.refl h0 []).ext E2
 have U2 : Arv Z h2 b2 k2 (.object S0') (3 : Int32) [] .null := Arv.new A2 (by decide)
 have V2 : Arv Z h2 b2 k2 (.object S0') (3 : Int32) [.null, .null, .null] .null := U2.pad (pad_rep [] .null 3)
 refine ja (A := oW p e below T2 (jaT m 32 (oR ea) (oi 3) (oR mo) (oR b2) [(.int 3), (.int 10), (.int 0), (.ref b2), (.int 0), (.ref ea)])) (fun t k => by
  refine XS.goto X2.here hx rfl (pc0 := 10) (pc' := 24) rfl (dd 5 rfl) (by decide) (by decide) ?_
  refine XS.astoreN X2.here hx rfl (dd 11 rfl) rfl rfl (l' := #[(oR ea), (oi 3), (oR mo), (oR b2)]) rfl ?_
  show oW p e below T2 (jaT m 25 (oR ea) (oi 3) (oR mo) (oR b2) []) _
  refine XS.aloadN X2.here hx rfl (dd 12 rfl) rfl rfl ?_
  refine XS.iconst X2.here hx rfl (dd 13 rfl) ?_
  refine XS.aloadN X2.here hx rfl (dd 14 rfl) rfl rfl ?_
  refine XS.iconst X2.here hx rfl (dd 15 rfl) ?_
  refine XS.aloadN X2.here hx rfl (dd 16 rfl) rfl rfl ?_
  show oW p e below T2 (jaT m 30 (oR ea) (oi 3) (oR mo) (oR b2) [(.ref ea), (.int 0), (.ref b2), (.int 0), (.ref ea)]) _
  refine jM X2 hx hZ e2 (Vo0.ext E2) (g := (jaT m 30 (oR ea) (oi 3) (oR mo) (oR b2) [(.ref ea), (.int 0), (.ref b2), (.int 0), (.ref ea)])) rfl rfl (dd 17 rfl) _ ?_
  refine XS.iloadN X2.here hx rfl (dd 18 rfl) rfl ?_
  exact k) ?_
 obtain ⟨_, T3, L3, X3, hQ3, st3⟩ := jH X2 hx hZ hown ow211 ow212 ow213 ow81 (jfd l Z a0 hw []  h2 n0 Z2 ) e2 (by decide) (g := (jaT m 32 (oR ea) (oi 3) (oR mo) (oR b2) [(.int 3), (.int 10), (.int 0), (.ref b2), (.int 0), (.ref ea)])) rfl (by rw [hml]; rfl) (rest := [(.int 0), (.ref b2), (.int 0), (.ref ea)]) rfl (lenOf jaG rfl) rfl (W := 4) (Nat.le_of_eq rfl) (dd 19 rfl) (by decide)
 obtain ⟨rfl, N3q, eh3⟩ := hQ3
 have N3 := Fr.app N0 N3q
 refine ja st3 ?_
 obtain ⟨T4, h4, L4, X4, e4, N4, Kc4, A4, st4⟩ := cpA X3 hx hZ hown ow214 ow217 ow215 ow216 eh3 (Vo0.ext E2) V2 (us := [(.ref x0a), (.ref x1a), (.ref x2a)]) (Or.inr ⟨rfl, rfl, ⟨jcr V2 O2 (Ins.of_exa (Ex0.ext E2) ow85), ⟨jcr V2 O2 (Ins.of_exa (Ex1.ext E2) ow85), ⟨jcr V2 O2 (Ins.of_exa (Ex2.ext E2) ow85), trivial⟩⟩⟩⟩) (by decide) (by decide) (by decide) (by decide) (by decide) rfl (by decide) N3 g_b2 (g := (jaT m 35 (oR ea) (oi 3) (oR mo) (oR b2) [(.int 3), (.int 0), (.ref b2), (.int 0), (.ref ea)])) rfl (by rw [hml]; rfl) rfl (dd 20 rfl) (by decide) (W := 0) (by show 2 * 0 + _ ≤ _; exact Nat.le_of_eq rfl) (by decide)
 refine ja st4 ?_
 have V4 : Arv Z h4 b2 k2 (.object S0') (3 : Int32) [(.ref x0a), (.ref x1a), (.ref x2a)] .null := A4
 have f4_1 := (Vo0.ext E2).keep Kc4 (ninS ne_ea_b2 nin0)
 have f4_5 := V4
 have Z4 : n0 ≤ h4.size := Nat.le_trans Z2 Kc4.1
 have K4 : Keep h0 h4 [] := K2.trans Kc4 (allS (Or.inr sz_b2) all0)
 refine ja (A := oW p e below T4 (jaT m 39 (oR ea) (oi 3) (oR mo) (oR b2) [(.ref b2)])) (fun t k => by
  refine XS.aloadN X4.here hx rfl (dd 21 rfl) rfl rfl ?_
  exact k) ?_
 refine jE X4 hx Bd hPf (by decide) (by decide) rfl rfl rfl (dd 22 rfl) ?_
 rw [e4]
 exact ⟨b2, k2, rfl, N4, K4, sz_b2, (Q2.keep Kc4), O2, V4⟩
abbrev jdW (m : MethodId) (pc : Nat) (a0 a1 : Slot) (S : List Value) : JFrame := mkF m pc #[a0, a1] S
def jff (Z : State) (ea : Addr) (mo : Addr) (ke : ClassId) (x0a x1a x2a : Addr) (h0 : Heap) (n0 : Nat) (v : Option Value) (h : Heap) (L : List Loc) : Prop := ∃ (na : Addr) (kn : ClassId), v = some (.ref na) ∧ Fr n0 L ∧ Keep h0 h [] ∧ h0.size ≤ na ∧ Exa Z h na S4' ∧ Ovr Z kn S0' ∧ Arv Z h na kn (.object S0') (3 : Int32) [(.ref x0a), (.ref x1a), (.ref x2a)] .null
theorem jez (l : Launch) (Z : State) (a0 : Array Value) (hw : oH a0 Z) (ws : List Jvm.Cond) (ea : Addr) (mo : Addr) (ke : ClassId) (x0a x1a x2a : Addr) (h0 : Heap) (n0 : Nat) (Z0 : n0 ≤ h0.size) (hmo : Mir Z S4' mo) (Eo0 : Exa Z h0 ea S4') (Vo0 : Arv Z h0 ea ke (.object S0') (10 : Int32) [(.ref x0a), (.ref x1a), (.ref x2a), .null, .null, .null, .null, .null, .null, .null] .null) (Ex0 : Exa Z h0 x0a S2') (Ex1 : Exa Z h0 x1a S2') (Ex2 : Exa Z h0 x2a S2') :
  ji l Z M6' jdk_65_method_119_code 2 (some (.array (.object S0'))) ws ({ frames := 2, cells := 1, slots := 3, locals := 79 } : Room) #[(.ref ea), (.int 3)] h0 (jff Z ea mo ke x0a x1a x2a h0 n0) := by
 refine jb (plainFor_of_name jP) (fun m => jas m ea (3 : Int32)) ?_
 intro p e s m below meth c s₁ Bd hx hby hml hown hZ X0 e0 Pf hPf
 have N0 := Fr.nil n0
 have dd := oD65_119j.hb hby
 have ow177 := ow hw 177 rfl
 have ow198 := ow hw 198 rfl
 have ow200 := ow hw 200 rfl
 have ow201 := ow hw 201 rfl
 have ow202 := ow hw 202 rfl
 have ow203 := ow hw 203 rfl
 have ow204 := ow hw 204 rfl
 have ow206 := ow hw 206 rfl
 have ow207 := ow hw 207 rfl
 have ow208 := ow hw 208 rfl
 refine ja (A := oW p e below s₁ (jdW m 3 (oR ea) (oi 3) [(.ref ea), (.int 3), (.ref ea)])) (fun t k => by
  refine XS.aloadN X0.here hx rfl (dd 0 rfl) rfl rfl ?_
  refine XS.iloadN X0.here hx rfl (dd 1 rfl) rfl ?_
  refine XS.aloadN X0.here hx rfl (dd 2 rfl) rfl rfl ?_
  exact k) ?_
 obtain ⟨T1, X1, e1, st1⟩ := gcls X0 hx hZ hown ow200 ow201 ow177 ow203 ow202 ow204 e0 Eo0 hmo (g := (jdW m 3 (oR ea) (oi 3) [(.ref ea), (.int 3), (.ref ea)])) rfl (by rw [hml]; rfl) rfl (dd 3 rfl) (by decide) (W := 2) (by show 2 * 0 + _ ≤ _; exact Nat.le_of_eq rfl) (by decide)
 refine ja st1 ?_
 obtain ⟨_, T2, L2, X2, hQ2, st2⟩ := jH X1 hx hZ hown ow206 ow207 ow208 ow198 (jey l Z a0 hw [] ea mo ke x0a x1a x2a h0 n0 Z0 hmo Eo0 Vo0 Ex0 Ex1 Ex2) e1 (by decide) (g := (jdW m 6 (oR ea) (oi 3) [(.ref mo), (.int 3), (.ref ea)])) rfl (by rw [hml]; rfl) (rest := []) rfl (lenOf jl rfl) rfl (W := 0) (Nat.le_of_eq rfl) (dd 4 rfl) (by decide)
 obtain ⟨na, kn, rfl, N2q, K2q, s_na, p2_0, p2_1, p2_2⟩ := hQ2
 have N2 := Fr.app N0 N2q
 have g_na : n0 ≤ na := Nat.le_trans Z0 s_na
 have sz_na : h0.size ≤ na := Nat.le_trans (Keep.refl h0 []).1 s_na
 have ne_ea_na : ea ≠ na := Nat.ne_of_lt (Nat.lt_of_lt_of_le Eo0.lt s_na)
 have ne_x0a_na : x0a ≠ na := Nat.ne_of_lt (Nat.lt_of_lt_of_le Ex0.lt s_na)
 have ne_x1a_na : x1a ≠ na := Nat.ne_of_lt (Nat.lt_of_lt_of_le Ex1.lt s_na)
 have ne_x2a_na : x2a ≠ na := Nat.ne_of_lt (Nat.lt_of_lt_of_le Ex2.lt s_na)
 have f2_1 := Vo0.keep K2q nin0
 have Z2 : n0 ≤ T2.heap.size := Nat.le_trans Z0 K2q.1
 have K2 : Keep h0 T2.heap [] := (Keep.refl h0 []).trans K2q all0
 refine ja st2 ?_
 refine jE X2 hx Bd hPf (by decide) (by decide) rfl rfl rfl (dd 5 rfl) ?_
 exact ⟨na, kn, rfl, N2, K2, sz_na, p2_0, p2_1, p2_2⟩
abbrev jds (m : MethodId) (pc : Nat) (a0 : Slot) (S : List Value) : JFrame := mkF m pc #[a0] S
def jhg (Z : State) (pa : Addr) (mo ea : Addr) (ke : ClassId) (x0a x1a x2a : Addr) (h0 : Heap) (n0 : Nat) (v : Option Value) (h : Heap) (L : List Loc) : Prop := ∃ (na : Addr) (kn : ClassId), v = some (.ref na) ∧ Fr n0 L ∧ Keep h0 h [] ∧ h0.size ≤ na ∧ Exa Z h na S4' ∧ Ovr Z kn S0' ∧ Arv Z h na kn (.object S0') (3 : Int32) [(.ref x0a), (.ref x1a), (.ref x2a)] .null
theorem jfg (l : Launch) (Z : State) (a0 : Array Value) (hw : oH a0 Z) (ws : List Jvm.Cond) (pa : Addr) (mo ea : Addr) (ke : ClassId) (x0a x1a x2a : Addr) (h0 : Heap) (n0 : Nat) (Z0 : n0 ≤ h0.size) (hmo : Mir Z S4' mo) (Ea0 : Exa Z h0 pa S3') (Fe0 : Fld Z h0 pa S3' S15' S4' (.ref ea)) (Fs0 : Fld Z h0 pa S3' S8' "I" (.int 3)) (Eo0 : Exa Z h0 ea S4') (Vo0 : Arv Z h0 ea ke (.object S0') (10 : Int32) [(.ref x0a), (.ref x1a), (.ref x2a), .null, .null, .null, .null, .null, .null, .null] .null) (Ex0 : Exa Z h0 x0a S2') (Ex1 : Exa Z h0 x1a S2') (Ex2 : Exa Z h0 x2a S2') :
  ji l Z M7' jdk_38_method_16_code 1 (some (.array (.object S0'))) ws ({ frames := 3, cells := 1, slots := 3, locals := 92 } : Room) #[(.ref pa)] h0 (jhg Z pa mo ea ke x0a x1a x2a h0 n0) := by
 refine jb (plainFor_of_name jf) (fun m => jr m pa) ?_
 intro p e s m below meth c s₁ Bd hx hby hml hown hZ X0 e0 Pf hPf
 have N0 := Fr.nil n0
 have dd := oD38_16j.hb hby
 have ow25 := ow hw 25 rfl
 have ow62 := ow hw 62 rfl
 have ow196 := ow hw 196 rfl
 have ow197 := ow hw 197 rfl
 have ow198 := ow hw 198 rfl
 have ow199 := ow hw 199 rfl
 refine ja (A := oW p e below s₁ (jds m 1 (oR pa) [(.ref pa)])) (fun t k => by
  refine XS.aloadN X0.here hx rfl (dd 0 rfl) rfl rfl ?_
  exact k) ?_
 obtain ⟨T1, X1, e1, st1⟩ := getF X0 hx hZ hown (host := "") (Or.inl ow25) Via.refl e0 Fe0 (g := (jds m 1 (oR pa) [(.ref pa)])) rfl rfl (dd 1 rfl)
 refine ja st1 ?_
 refine ja (A := oW p e below T1 (jds m 5 (oR pa) [(.ref pa), (.ref ea)])) (fun t k => by
  refine XS.aloadN X1.here hx rfl (dd 2 rfl) rfl rfl ?_
  exact k) ?_
 obtain ⟨T2, X2, e2, st2⟩ := getF X1 hx hZ hown (host := "") (Or.inl ow62) Via.refl e1 Fs0 (g := (jds m 5 (oR pa) [(.ref pa), (.ref ea)])) rfl rfl (dd 3 rfl)
 refine ja st2 ?_
 obtain ⟨_, T3, L3, X3, hQ3, st3⟩ := jH X2 hx hZ hown ow196 ow197 ow199 ow198 (jez l Z a0 hw [] ea mo ke x0a x1a x2a h0 n0 Z0 hmo Eo0 Vo0 Ex0 Ex1 Ex2) e2 (by decide) (g := (jds m 8 (oR pa) [(.int 3), (.ref ea)])) rfl (by rw [hml]; rfl) (rest := []) rfl (lenOf jz rfl) rfl (W := 0) (Nat.le_of_eq rfl) (dd 4 rfl) (by decide)
 obtain ⟨na, kn, rfl, N3q, K3q, s_na, p3_0, p3_1, p3_2⟩ := hQ3
 have N3 := Fr.app N0 N3q
 have g_na : n0 ≤ na := Nat.le_trans Z0 s_na
 have sz_na : h0.size ≤ na := Nat.le_trans (Keep.refl h0 []).1 s_na
 have ne_pa_na : pa ≠ na := Nat.ne_of_lt (Nat.lt_of_lt_of_le Ea0.lt s_na)
 have ne_ea_na : ea ≠ na := Nat.ne_of_lt (Nat.lt_of_lt_of_le Eo0.lt s_na)
 have ne_x0a_na : x0a ≠ na := Nat.ne_of_lt (Nat.lt_of_lt_of_le Ex0.lt s_na)
 have ne_x1a_na : x1a ≠ na := Nat.ne_of_lt (Nat.lt_of_lt_of_le Ex1.lt s_na)
 have ne_x2a_na : x2a ≠ na := Nat.ne_of_lt (Nat.lt_of_lt_of_le Ex2.lt s_na)
 have f3_1 := Fe0.keep K3q nin0
 have f3_2 := Fs0.keep K3q nin0
 have f3_4 := Vo0.keep K3q nin0
 have Z3 : n0 ≤ T3.heap.size := Nat.le_trans Z0 K3q.1
 have K3 : Keep h0 T3.heap [] := (Keep.refl h0 []).trans K3q all0
 refine ja st3 ?_
 refine jE X3 hx Bd hPf (by decide) (by decide) rfl rfl rfl (dd 5 rfl) ?_
 exact ⟨na, kn, rfl, N3, K3, sz_na, p3_0, p3_1, p3_2⟩
abbrev jlA (m : MethodId) (pc : Nat) (a0 : Slot) (S : List Value) : JFrame := mkF m pc #[a0] S
theorem oD31_10j : oDec jdk_31_method_10_code [(0, .aload_n 0, 1), (1, .ifnonnull 11, 3), (4, .new 84, 3), (7, .dup, 1), (8, .invokespecial 86, 3), (11, .athrow, 1), (12, .aload_n 0, 1), (13, .areturn, 1)] := by decide +kernel
def jiU (Z : State) (pe : Addr)  (h0 : Heap) (n0 : Nat) (v : Option Value) (h : Heap) (L : List Loc) : Prop := v = some (.ref pe) ∧ Fr n0 L ∧ h = h0
theorem jby (l : Launch) (Z : State) (a0 : Array Value) (hw : oH a0 Z) (ws : List Jvm.Cond) (pe : Addr)  (h0 : Heap) (n0 : Nat) (Z0 : n0 ≤ h0.size) :
  ji l Z (⟨"java/util/Objects", "requireNonNull", "(Ljava/lang/Object;)Ljava/lang/Object;"⟩ : MethodName) jdk_31_method_10_code 1 (some (.object S0')) ws ({ frames := 0, cells := 0, slots := 0, locals := 0 } : Room) #[(.ref pe)] h0 (jiU Z pe h0 n0) := by
 refine jb (plainFor_of_name jaz) (fun m => jr m pe) ?_
 intro p e s m below meth c s₁ Bd hx hby hml hown hZ X0 e0 Pf hPf
 have N0 := Fr.nil n0
 have dd := oD31_10j.hb hby
 refine ja (A := oW p e below s₁ (jlA m 13 (oR pe) [(.ref pe)])) (fun t k => by
  refine XS.aloadN X0.here hx rfl (dd 0 rfl) rfl rfl ?_
  refine XS.ifnonnullYes X0.here hx rfl (pc0 := 1) (pc' := 12) rfl (dd 1 rfl) rfl (by decide) (by decide) ?_
  refine XS.aloadN X0.here hx rfl (dd 6 rfl) rfl rfl ?_
  exact k) ?_
 refine jE X0 hx Bd hPf (by decide) (by decide) rfl rfl rfl (dd 7 rfl) ?_
 rw [e0]
 exact ⟨rfl, N0, rfl⟩
abbrev jlB (m : MethodId) (pc : Nat) (a0 a1 : Slot) (S : List Value) : JFrame := mkF m pc #[a0, a1] S
theorem oD31_11j : oDec jdk_31_method_11_code [(0, .aload_n 0, 1), (1, .ifnonnull 12, 3), (4, .new 84, 3), (7, .dup, 1), (8, .aload_n 1, 1), (9, .invokespecial 87, 3), (12, .athrow, 1), (13, .aload_n 0, 1), (14, .areturn, 1)] := by decide +kernel
def jiV (Z : State) (pe : Addr) (pm : Addr)  (h0 : Heap) (n0 : Nat) (v : Option Value) (h : Heap) (L : List Loc) : Prop := v = some (.ref pe) ∧ Fr n0 L ∧ h = h0
theorem jcX (l : Launch) (Z : State) (a0 : Array Value) (hw : oH a0 Z) (ws : List Jvm.Cond) (pe : Addr) (pm : Addr)  (h0 : Heap) (n0 : Nat) (Z0 : n0 ≤ h0.size) :
  ji l Z (⟨"java/util/Objects", "requireNonNull", "(Ljava/lang/Object;Ljava/lang/String;)Ljava/lang/Object;"⟩ : MethodName) jdk_31_method_11_code 2 (some (.object S0')) ws ({ frames := 0, cells := 0, slots := 0, locals := 0 } : Room) #[(.ref pe), (.ref pm)] h0 (jiV Z pe pm h0 n0) := by
 refine jb (plainFor_of_name jaz) (fun m => jar m pe pm) ?_
 intro p e s m below meth c s₁ Bd hx hby hml hown hZ X0 e0 Pf hPf
 have N0 := Fr.nil n0
 have dd := oD31_11j.hb hby
 refine ja (A := oW p e below s₁ (jlB m 14 (oR pe) (oR pm) [(.ref pe)])) (fun t k => by
  refine XS.aloadN X0.here hx rfl (dd 0 rfl) rfl rfl ?_
  refine XS.ifnonnullYes X0.here hx rfl (pc0 := 1) (pc' := 13) rfl (dd 1 rfl) rfl (by decide) (by decide) ?_
  refine XS.aloadN X0.here hx rfl (dd 7 rfl) rfl rfl ?_
  exact k) ?_
 refine jE X0 hx Bd hPf (by decide) (by decide) rfl rfl rfl (dd 8 rfl) ?_
 rw [e0]
 exact ⟨rfl, N0, rfl⟩
abbrev jcm (m : MethodId) (pc : Nat) (a0 a1 : Slot) (S : List Value) : JFrame := mkF m pc #[a0, a1] S
theorem oD44_1j : oDec jdk_44_method_1_code [(0, .aload_n 0, 1), (1, .invokespecial 1, 3), (4, .aload_n 0, 1), (5, .aload_n 1, 1), (6, .invokestatic 7, 3), (9, .putfield 13, 3), (12, .aload_n 0, 1), (13, .getstatic 19, 3), (16, .putfield 24, 3), (19, .return_, 1)] := by decide +kernel
theorem jh : parseMethodDescriptor "(Ljava/lang/Object;)Ljava/lang/Object;" = some ⟨[(.object "java/lang/Object")], some (.object "java/lang/Object")⟩ := by decide +kernel
theorem jfU {a0 : Array Value} {Z : State} (hw : oH a0 Z) : jc Z S11' "e1" S9' ≠ jc Z S11' "e0" S9' := jg (C := S11') (Or.inr (ow hw 249 rfl)) (Or.inr (ow hw 246 rfl)) (by decide) rfl rfl
theorem jfV {a0 : Array Value} {Z : State} (hw : oH a0 Z) : jc Z S11' "e0" S9' ≠ jc Z S11' "e1" S9' := jg (C := S11') (Or.inr (ow hw 246 rfl)) (Or.inr (ow hw 249 rfl)) (by decide) rfl rfl
def jhh (Z : State) (wl : Addr) (x0a : Addr) (em : Addr) (h0 : Heap) (n0 : Nat) (v : Option Value) (h : Heap) (L : List Loc) : Prop := v = none ∧ Fr n0 L ∧ Keep h0 h [wl] ∧ Fld Z h wl S11' "e0" S9' (.ref x0a) ∧ Fld Z h wl S11' "e1" S9' (.ref em)
theorem jD : plainName "java/util/ImmutableCollections$List12" = true := by first | (simp [plainName, overriddenIn]; done) | decide +kernel
theorem jfh (l : Launch) (Z : State) (a0 : Array Value) (hw : oH a0 Z) (ws : List Jvm.Cond) (wl : Addr) (x0a : Addr) (em : Addr) (h0 : Heap) (n0 : Nat) (Z0 : n0 ≤ h0.size) (Se0 : Sta Z h0 S29' "EMPTY" S9' (.ref em)) (Em1 : Exa Z h0 em S0') (El0 : Exa Z h0 wl S11') (g_wl : n0 ≤ wl) (Fl0 : Fld Z h0 wl S11' "e0" S9' .null) (Fl1 : Fld Z h0 wl S11' "e1" S9' .null) :
  ji l Z (⟨S11', S27', "(Ljava/lang/Object;)V"⟩ : MethodName) jdk_44_method_1_code 2 none ws ({ frames := 4, cells := 0, slots := 0, locals := 48 } : Room) #[(.ref wl), (.ref x0a)] h0 (jhh Z wl x0a em h0 n0) := by
 refine jb (plainFor_of_name jD) (fun m => jar m wl x0a) ?_
 intro p e s m below meth c s₁ Bd hx hby hml hown hZ X0 e0 Pf hPf
 have N0 := Fr.nil n0
 have dd := oD44_1j.hb hby
 have hnm := (name_of_methodNamed Bd.named Bd.method).1
 have ow103 := ow hw 103 rfl
 have ow222 := ow hw 222 rfl
 have ow228 := ow hw 228 rfl
 have ow229 := ow hw 229 rfl
 have ow232 := ow hw 232 rfl
 have ow233 := ow hw 233 rfl
 have ow242 := ow hw 242 rfl
 have ow243 := ow hw 243 rfl
 have ow244 := ow hw 244 rfl
 have ow245 := ow hw 245 rfl
 have ow246 := ow hw 246 rfl
 have ow247 := ow hw 247 rfl
 have ow248 := ow hw 248 rfl
 have ow249 := ow hw 249 rfl
 refine ja (A := oW p e below s₁ (jcm m 1 (oR wl) (oR x0a) [(.ref wl)])) (fun t k => by
  refine XS.aloadN X0.here hx rfl (dd 0 rfl) rfl rfl ?_
  exact k) ?_
 obtain ⟨_, T1, L1, X1, hQ1, st1⟩ := jaF X0 hx hZ hown ow228 ow229 ow233 ow232 (jcF l Z a0 hw [] wl h0 n0 Z0 ) e0 rfl (by decide) (g := (jcm m 1 (oR wl) (oR x0a) [(.ref wl)])) rfl (by rw [hml]; rfl) (rest := []) rfl (lenOf jS rfl) rfl (W := 0) (Nat.le_of_eq rfl) (dd 1 rfl) (by decide)
 obtain ⟨rfl, N1q, eh1⟩ := hQ1
 have N1 := Fr.app N0 N1q
 refine ja st1 ?_
 refine ja (A := oW p e below T1 (jcm m 6 (oR wl) (oR x0a) [(.ref x0a), (.ref wl)])) (fun t k => by
  refine XS.aloadN X1.here hx rfl (dd 2 rfl) rfl rfl ?_
  refine XS.aloadN X1.here hx rfl (dd 3 rfl) rfl rfl ?_
  exact k) ?_
 obtain ⟨_, T2, L2, X2, hQ2, st2⟩ := jH X1 hx hZ hown ow242 ow243 ow244 ow103 (jby l Z a0 hw [] x0a h0 n0 Z0 ) eh1 (by decide) (g := (jcm m 6 (oR wl) (oR x0a) [(.ref x0a), (.ref wl)])) rfl (by rw [hml]; rfl) (rest := [(.ref wl)]) rfl (lenOf jh rfl) rfl (W := 1) (Nat.le_of_eq rfl) (dd 4 rfl) (by decide)
 obtain ⟨rfl, N2q, eh2⟩ := hQ2
 have N2 := Fr.app N1 N2q
 refine ja st2 ?_
 obtain ⟨T3, h3, X3, e3, W3, st3⟩ := putF X2 hx hZ hown (host := "") (Or.inl ow245) Via.refl eh2 Fl0 El0 (Or.inr ⟨ow246, rfl, hnm⟩) ow222 (ty := (.object S0')) (by decide) rfl rfl (g := (jcm m 9 (oR wl) (oR x0a) [(.ref x0a), (.ref wl)])) rfl rfl (dd 5 rfl)
 refine ja st3 ?_
 have f3_3 : Fld Z h3 wl S11' "e0" S9' (.ref x0a) := Fl0.same W3
 have f3_4 := Fl1.other W3 (Or.inr (jfU hw))
 have N3 := Fr.snoc X3 N2 g_wl
 have Z3 : n0 ≤ h3.size := Nat.le_trans Z0 (Keep.of_wr W3).1
 have K3 : Keep h0 h3 [wl] := (Keep.refl h0 [wl]).wr W3 (Or.inl (List.mem_of_getElem? (i := 0) rfl))
 refine ja (A := oW p e below T3 (jcm m 13 (oR wl) (oR x0a) [(.ref wl)])) (fun t k => by
  refine XS.aloadN X3.here hx rfl (dd 6 rfl) rfl rfl ?_
  exact k) ?_
 obtain ⟨T4, X4, e4, st4⟩ := getS2 X3 hx hZ hown (Or.inr ow247) Via.refl e3 (Se0.wr W3) (g := (jcm m 13 (oR wl) (oR x0a) [(.ref wl)])) rfl (dd 7 rfl)
 refine ja st4 ?_
 obtain ⟨T5, h5, X5, e5, W5, st5⟩ := putF X4 hx hZ hown (host := "") (Or.inl ow248) Via.refl e4 f3_4 (El0.wr W3) (Or.inr ⟨ow249, rfl, hnm⟩) ow222 (ty := (.object S0')) (by decide) rfl rfl (g := (jcm m 16 (oR wl) (oR x0a) [(.ref em), (.ref wl)])) rfl rfl (dd 8 rfl)
 refine ja st5 ?_
 have f5_3 := f3_3.other W5 (Or.inr (jfV hw))
 have f5_4 : Fld Z h5 wl S11' "e1" S9' (.ref em) := f3_4.same W5
 have N5 := Fr.snoc X5 N3 g_wl
 have Z5 : n0 ≤ h5.size := Nat.le_trans Z3 (Keep.of_wr W5).1
 have K5 : Keep h0 h5 [wl] := K3.wr W5 (Or.inl (List.mem_of_getElem? (i := 0) rfl))
 refine jaa X5 hx Bd hPf (by decide) (by decide) (dd 9 rfl) ?_
 rw [e5]
 exact ⟨rfl, N5, K5, f5_3, f5_4⟩
abbrev jcn (m : MethodId) (pc : Nat) (a0 a1 a2 : Slot) (S : List Value) : JFrame := mkF m pc #[a0, a1, a2] S
theorem oD44_2j : oDec jdk_44_method_2_code [(0, .aload_n 0, 1), (1, .invokespecial 1, 3), (4, .aload_n 0, 1), (5, .aload_n 1, 1), (6, .invokestatic 7, 3), (9, .putfield 13, 3), (12, .aload_n 0, 1), (13, .aload_n 2, 1), (14, .invokestatic 7, 3), (17, .putfield 24, 3), (20, .return_, 1)] := by decide +kernel
def jhi (Z : State) (wl : Addr) (x0a : Addr) (x1a : Addr)  (h0 : Heap) (n0 : Nat) (v : Option Value) (h : Heap) (L : List Loc) : Prop := v = none ∧ Fr n0 L ∧ Keep h0 h [wl] ∧ Fld Z h wl S11' "e0" S9' (.ref x0a) ∧ Fld Z h wl S11' "e1" S9' (.ref x1a)
theorem jfi (l : Launch) (Z : State) (a0 : Array Value) (hw : oH a0 Z) (ws : List Jvm.Cond) (wl : Addr) (x0a : Addr) (x1a : Addr)  (h0 : Heap) (n0 : Nat) (Z0 : n0 ≤ h0.size) (El0 : Exa Z h0 wl S11') (g_wl : n0 ≤ wl) (Fl0 : Fld Z h0 wl S11' "e0" S9' .null) (Fl1 : Fld Z h0 wl S11' "e1" S9' .null) :
  ji l Z (⟨S11', S27', "(Ljava/lang/Object;Ljava/lang/Object;)V"⟩ : MethodName) jdk_44_method_2_code 3 none ws ({ frames := 4, cells := 0, slots := 0, locals := 48 } : Room) #[(.ref wl), (.ref x0a), (.ref x1a)] h0 (jhi Z wl x0a x1a h0 n0) := by
 refine jb (plainFor_of_name jD) (fun m => jcj m wl x0a x1a) ?_
 intro p e s m below meth c s₁ Bd hx hby hml hown hZ X0 e0 Pf hPf
 have N0 := Fr.nil n0
 have dd := oD44_2j.hb hby
 have hnm := (name_of_methodNamed Bd.named Bd.method).1
 have ow103 := ow hw 103 rfl
 have ow222 := ow hw 222 rfl
 have ow228 := ow hw 228 rfl
 have ow229 := ow hw 229 rfl
 have ow232 := ow hw 232 rfl
 have ow233 := ow hw 233 rfl
 have ow242 := ow hw 242 rfl
 have ow243 := ow hw 243 rfl
 have ow244 := ow hw 244 rfl
 have ow245 := ow hw 245 rfl
 have ow246 := ow hw 246 rfl
 have ow248 := ow hw 248 rfl
 have ow249 := ow hw 249 rfl
 refine ja (A := oW p e below s₁ (jcn m 1 (oR wl) (oR x0a) (oR x1a) [(.ref wl)])) (fun t k => by
  refine XS.aloadN X0.here hx rfl (dd 0 rfl) rfl rfl ?_
  exact k) ?_
 obtain ⟨_, T1, L1, X1, hQ1, st1⟩ := jaF X0 hx hZ hown ow228 ow229 ow233 ow232 (jcF l Z a0 hw [] wl h0 n0 Z0 ) e0 rfl (by decide) (g := (jcn m 1 (oR wl) (oR x0a) (oR x1a) [(.ref wl)])) rfl (by rw [hml]; rfl) (rest := []) rfl (lenOf jS rfl) rfl (W := 0) (Nat.le_of_eq rfl) (dd 1 rfl) (by decide)
 obtain ⟨rfl, N1q, eh1⟩ := hQ1
 have N1 := Fr.app N0 N1q
 refine ja st1 ?_
 refine ja (A := oW p e below T1 (jcn m 6 (oR wl) (oR x0a) (oR x1a) [(.ref x0a), (.ref wl)])) (fun t k => by
  refine XS.aloadN X1.here hx rfl (dd 2 rfl) rfl rfl ?_
  refine XS.aloadN X1.here hx rfl (dd 3 rfl) rfl rfl ?_
  exact k) ?_
 obtain ⟨_, T2, L2, X2, hQ2, st2⟩ := jH X1 hx hZ hown ow242 ow243 ow244 ow103 (jby l Z a0 hw [] x0a h0 n0 Z0 ) eh1 (by decide) (g := (jcn m 6 (oR wl) (oR x0a) (oR x1a) [(.ref x0a), (.ref wl)])) rfl (by rw [hml]; rfl) (rest := [(.ref wl)]) rfl (lenOf jh rfl) rfl (W := 1) (Nat.le_of_eq rfl) (dd 4 rfl) (by decide)
 obtain ⟨rfl, N2q, eh2⟩ := hQ2
 have N2 := Fr.app N1 N2q
 refine ja st2 ?_
 obtain ⟨T3, h3, X3, e3, W3, st3⟩ := putF X2 hx hZ hown (host := "") (Or.inl ow245) Via.refl eh2 Fl0 El0 (Or.inr ⟨ow246, rfl, hnm⟩) ow222 (ty := (.object S0')) (by decide) rfl rfl (g := (jcn m 9 (oR wl) (oR x0a) (oR x1a) [(.ref x0a), (.ref wl)])) rfl rfl (dd 5 rfl)
 refine ja st3 ?_
 have f3_1 : Fld Z h3 wl S11' "e0" S9' (.ref x0a) := Fl0.same W3
 have f3_2 := Fl1.other W3 (Or.inr (jfU hw))
 have N3 := Fr.snoc X3 N2 g_wl
 have Z3 : n0 ≤ h3.size := Nat.le_trans Z0 (Keep.of_wr W3).1
 have K3 : Keep h0 h3 [wl] := (Keep.refl h0 [wl]).wr W3 (Or.inl (List.mem_of_getElem? (i := 0) rfl))
 refine ja (A := oW p e below T3 (jcn m 14 (oR wl) (oR x0a) (oR x1a) [(.ref x1a), (.ref wl)])) (fun t k => by
  refine XS.aloadN X3.here hx rfl (dd 6 rfl) rfl rfl ?_
  refine XS.aloadN X3.here hx rfl (dd 7 rfl) rfl rfl ?_
  exact k) ?_
 obtain ⟨_, T4, L4, X4, hQ4, st4⟩ := jH X3 hx hZ hown ow242 ow243 ow244 ow103 (jby l Z a0 hw [] x1a h3 n0 Z3 ) e3 (by decide) (g := (jcn m 14 (oR wl) (oR x0a) (oR x1a) [(.ref x1a), (.ref wl)])) rfl (by rw [hml]; rfl) (rest := [(.ref wl)]) rfl (lenOf jh rfl) rfl (W := 1) (Nat.le_of_eq rfl) (dd 8 rfl) (by decide)
 obtain ⟨rfl, N4q, eh4⟩ := hQ4
 have N4 := Fr.app N3 N4q
 refine ja st4 ?_
 obtain ⟨T5, h5, X5, e5, W5, st5⟩ := putF X4 hx hZ hown (host := "") (Or.inl ow248) Via.refl eh4 f3_2 (El0.wr W3) (Or.inr ⟨ow249, rfl, hnm⟩) ow222 (ty := (.object S0')) (by decide) rfl rfl (g := (jcn m 17 (oR wl) (oR x0a) (oR x1a) [(.ref x1a), (.ref wl)])) rfl rfl (dd 9 rfl)
 refine ja st5 ?_
 have f5_1 := f3_1.other W5 (Or.inr (jfV hw))
 have f5_2 : Fld Z h5 wl S11' "e1" S9' (.ref x1a) := f3_2.same W5
 have N5 := Fr.snoc X5 N4 g_wl
 have Z5 : n0 ≤ h5.size := Nat.le_trans Z3 (Keep.of_wr W5).1
 have K5 : Keep h0 h5 [wl] := K3.wr W5 (Or.inl (List.mem_of_getElem? (i := 0) rfl))
 refine jaa X5 hx Bd hPf (by decide) (by decide) (dd 10 rfl) ?_
 rw [e5]
 exact ⟨rfl, N5, K5, f5_1, f5_2⟩
abbrev jdK (m : MethodId) (pc : Nat) (a0 a1 a2 : Slot) (S : List Value) : JFrame := mkF m pc #[a0, a1, a2] S
theorem oD45_1j : oDec jdk_45_method_1_code [(0, .aload_n 0, 1), (1, .invokespecial 1, 3), (4, .aload_n 0, 1), (5, .aload_n 1, 1), (6, .putfield 7, 3), (9, .aload_n 0, 1), (10, .iload_n 2, 1), (11, .putfield 13, 3), (14, .return_, 1)] := by decide +kernel
theorem jkd {a0 : Array Value} {Z : State} (hw : oH a0 Z) : jc Z S17' S56' "Z" ≠ jc Z S17' S30' S4' := jg (C := S17') (Or.inr (ow hw 613 rfl)) (Or.inr (ow hw 611 rfl)) (by decide) rfl rfl
theorem jke {a0 : Array Value} {Z : State} (hw : oH a0 Z) : jc Z S17' S30' S4' ≠ jc Z S17' S56' "Z" := jg (C := S17') (Or.inr (ow hw 611 rfl)) (Or.inr (ow hw 613 rfl)) (by decide) rfl rfl
def jiW (Z : State) (wl : Addr) (el : Addr)  (h0 : Heap) (n0 : Nat) (v : Option Value) (h : Heap) (L : List Loc) : Prop := v = none ∧ Fr n0 L ∧ Keep h0 h [wl] ∧ Fld Z h wl S17' S30' S4' (.ref el) ∧ Fld Z h wl S17' S56' "Z" (.int 0)
theorem jQ : plainName "java/util/ImmutableCollections$ListN" = true := by first | (simp [plainName, overriddenIn]; done) | decide +kernel
theorem jhj (l : Launch) (Z : State) (a0 : Array Value) (hw : oH a0 Z) (ws : List Jvm.Cond) (wl : Addr) (el : Addr)  (h0 : Heap) (n0 : Nat) (Z0 : n0 ≤ h0.size) (El0 : Exa Z h0 wl S17') (g_wl : n0 ≤ wl) (Fl0 : Fld Z h0 wl S17' S30' S4' .null) (Fl1 : Fld Z h0 wl S17' S56' "Z" (.int 0)) :
  ji l Z M8' jdk_45_method_1_code 3 none ws ({ frames := 4, cells := 0, slots := 0, locals := 48 } : Room) #[(.ref wl), (.ref el), (.int 0)] h0 (jiW Z wl el h0 n0) := by
 refine jb (plainFor_of_name jQ) (fun m => jci m wl el (0 : Int32)) ?_
 intro p e s m below meth c s₁ Bd hx hby hml hown hZ X0 e0 Pf hPf
 have N0 := Fr.nil n0
 have dd := oD45_1j.hb hby
 have hnm := (name_of_methodNamed Bd.named Bd.method).1
 have ow229 := ow hw 229 rfl
 have ow232 := ow hw 232 rfl
 have ow233 := ow hw 233 rfl
 have ow600 := ow hw 600 rfl
 have ow606 := ow hw 606 rfl
 have ow610 := ow hw 610 rfl
 have ow611 := ow hw 611 rfl
 have ow612 := ow hw 612 rfl
 have ow613 := ow hw 613 rfl
 refine ja (A := oW p e below s₁ (jdK m 1 (oR wl) (oR el) (oi 0) [(.ref wl)])) (fun t k => by
  refine XS.aloadN X0.here hx rfl (dd 0 rfl) rfl rfl ?_
  exact k) ?_
 obtain ⟨_, T1, L1, X1, hQ1, st1⟩ := jaF X0 hx hZ hown ow606 ow229 ow233 ow232 (jcF l Z a0 hw [] wl h0 n0 Z0 ) e0 rfl (by decide) (g := (jdK m 1 (oR wl) (oR el) (oi 0) [(.ref wl)])) rfl (by rw [hml]; rfl) (rest := []) rfl (lenOf jS rfl) rfl (W := 0) (Nat.le_of_eq rfl) (dd 1 rfl) (by decide)
 obtain ⟨rfl, N1q, eh1⟩ := hQ1
 have N1 := Fr.app N0 N1q
 refine ja st1 ?_
 refine ja (A := oW p e below T1 (jdK m 6 (oR wl) (oR el) (oi 0) [(.ref el), (.ref wl)])) (fun t k => by
  refine XS.aloadN X1.here hx rfl (dd 2 rfl) rfl rfl ?_
  refine XS.aloadN X1.here hx rfl (dd 3 rfl) rfl rfl ?_
  exact k) ?_
 obtain ⟨T2, h2, X2, e2, W2, st2⟩ := putF X1 hx hZ hown (host := "") (Or.inl ow610) Via.refl eh1 Fl0 El0 (Or.inr ⟨ow611, rfl, hnm⟩) ow600 (ty := (.array (.object S0'))) (by decide) rfl rfl (g := (jdK m 6 (oR wl) (oR el) (oi 0) [(.ref el), (.ref wl)])) rfl rfl (dd 4 rfl)
 refine ja st2 ?_
 have f2_1 : Fld Z h2 wl S17' S30' S4' (.ref el) := Fl0.same W2
 have f2_2 := Fl1.other W2 (Or.inr (jkd hw))
 have N2 := Fr.snoc X2 N1 g_wl
 have Z2 : n0 ≤ h2.size := Nat.le_trans Z0 (Keep.of_wr W2).1
 have K2 : Keep h0 h2 [wl] := (Keep.refl h0 [wl]).wr W2 (Or.inl (List.mem_of_getElem? (i := 0) rfl))
 refine ja (A := oW p e below T2 (jdK m 11 (oR wl) (oR el) (oi 0) [(.int 0), (.ref wl)])) (fun t k => by
  refine XS.aloadN X2.here hx rfl (dd 5 rfl) rfl rfl ?_
  refine XS.iloadN X2.here hx rfl (dd 6 rfl) rfl ?_
  exact k) ?_
 obtain ⟨T3, h3, X3, e3, W3, st3⟩ := putFN X2 hx hZ hown ow612 Via.refl e2 f2_2 (El0.wr W2) (Or.inr ⟨ow613, rfl, hnm⟩) ow600 (ty := .boolean) (v' := .int (nar .boolean (0 : Int32))) (by decide) rfl (fits_nar_bool _) (g := (jdK m 11 (oR wl) (oR el) (oi 0) [(.int 0), (.ref wl)])) rfl rfl (dd 7 rfl)
 refine ja st3 ?_
 have f3_1 := f2_1.other W3 (Or.inr (jke hw))
 have f3_2 : Fld Z h3 wl S17' S56' "Z" (.int 0) := f2_2.same W3
 have N3 := Fr.snoc X3 N2 g_wl
 have Z3 : n0 ≤ h3.size := Nat.le_trans Z2 (Keep.of_wr W3).1
 have K3 : Keep h0 h3 [wl] := K2.wr W3 (Or.inl (List.mem_of_getElem? (i := 0) rfl))
 refine jaa X3 hx Bd hPf (by decide) (by decide) (dd 8 rfl) ?_
 rw [e3]
 exact ⟨rfl, N3, K3, f3_1, f3_2⟩
abbrev jam (m : MethodId) (pc : Nat) (a0 a1 a2 : Slot) (S : List Value) : JFrame := mkF m pc #[a0, a1, a2] S
theorem oD56_4j : oDec jdk_56_method_4_code [(0, .aload_n 0, 1), (1, .arraylength, 1), (2, .anewarray 2, 3), (5, .astore_n 1, 1), (6, .iconst 0, 1), (7, .istore_n 2, 1), (8, .iload_n 2, 1), (9, .aload_n 0, 1), (10, .arraylength, 1), (11, .if_icmp .ge 18, 3), (14, .aload_n 1, 1), (15, .iload_n 2, 1), (16, .aload_n 0, 1), (17, .iload_n 2, 1), (18, .aaload, 1), (19, .invokestatic 37, 3), (22, .aastore, 1), (23, .iinc 2 1, 3), (26, .goto (-18), 3), (29, .new 12, 3), (32, .dup, 1), (33, .aload_n 1, 1), (34, .iconst 0, 1), (35, .invokespecial 43, 3), (38, .areturn, 1)] := by decide +kernel
theorem jaP : parseMethodDescriptor "([Ljava/lang/Object;Z)V" = some ⟨[(.array (.object "java/lang/Object")), .boolean], none⟩ := by decide +kernel
theorem jhk (m : MethodId) (x0 : Addr) : entryFrame m #[(.ref x0)] 3 = mkF m 0 #[(oR x0), ou, ou] [] := by first | (simp [entryFrame, mkF, argsToLocals, Value.category]; done) | rfl
def jiX (Z : State) (na : Addr) (kn : ClassId) (x0a x1a x2a : Addr) (h0 : Heap) (n0 : Nat) (v : Option Value) (h : Heap) (L : List Loc) : Prop := ∃ (wl el : Addr) (kl : ClassId), v = some (.ref wl) ∧ Fr n0 L ∧ Keep h0 h [] ∧ h0.size ≤ wl ∧ Exa Z h wl S17' ∧ Fld Z h wl S17' S30' S4' (.ref el) ∧ Exa Z h el S4' ∧ Arv Z h el kl (.object S0') (3 : Int32) [(.ref x0a), (.ref x1a), (.ref x2a)] .null
theorem jL : plainName "java/util/ImmutableCollections" = true := by first | (simp [plainName, overriddenIn]; done) | decide +kernel
theorem jhl (l : Launch) (Z : State) (a0 : Array Value) (hw : oH a0 Z) (ws : List Jvm.Cond) (na : Addr) (kn : ClassId) (x0a x1a x2a : Addr) (h0 : Heap) (n0 : Nat) (Z0 : n0 ≤ h0.size) (En0 : Exa Z h0 na S4') (Vn0 : Arv Z h0 na kn (.object S0') (3 : Int32) [(.ref x0a), (.ref x1a), (.ref x2a)] .null) (Ex0 : Exa Z h0 x0a S2') (Ex1 : Exa Z h0 x1a S2') (Ex2 : Exa Z h0 x2a S2') :
  ji l Z (⟨S29', "listFromArray", S63'⟩ : MethodName) jdk_56_method_4_code 3 (some (.object S24')) ws ({ frames := 5, cells := 2, slots := 5, locals := 63 } : Room) #[(.ref na)] h0 (jiX Z na kn x0a x1a x2a h0 n0) := by
 refine jb (plainFor_of_name jL) (fun m => jhk m na) ?_
 intro p e s m below meth c s₁ Bd hx hby hml hown hZ X0 e0 Pf hPf
 have N0 := Fr.nil n0
 have dd := oD56_4j.hb hby
 have ow84 := ow hw 84 rfl
 have ow85 := ow hw 85 rfl
 have ow103 := ow hw 103 rfl
 have ow178 := ow hw 178 rfl
 have ow243 := ow hw 243 rfl
 have ow244 := ow hw 244 rfl
 have ow598 := ow hw 598 rfl
 have ow599 := ow hw 599 rfl
 have ow600 := ow hw 600 rfl
 have ow601 := ow hw 601 rfl
 have ow602 := ow hw 602 rfl
 have ow603 := ow hw 603 rfl
 have ow605 := ow hw 605 rfl
 have ow611 := ow hw 611 rfl
 have ow613 := ow hw 613 rfl
 refine ja (A := oW p e below s₁ (jam m 2 (oR na) ou ou [(.int 3)])) (fun t k => by
  refine XS.aloadN X0.here hx rfl (dd 0 rfl) rfl rfl ?_
  refine jM X0 hx hZ e0 Vn0 (g := (jam m 1 (oR na) ou ou [(.ref na)])) rfl rfl (dd 1 rfl) _ ?_
  exact k) ?_
 obtain ⟨T1, h1, k1, X1, e1, E1, A1, Q1, O1, st1⟩ := newRE X0 hx hZ hown ow598 ow84 e0 (g := (jam m 2 (oR na) ou ou [(.int 3)])) rfl (dd 2 rfl) rfl (by decide) (cap := 3) (by decide) (by decide) (by decide) (by decide) (ad := S4') (by decide)
 obtain ⟨b1, g1⟩ : ∃ z, z = h0.size := ⟨_, rfl⟩
 rw [← g1] at A1 Q1 st1
 refine ja st1 ?_
 have ne_na_b1 : na ≠ b1 := Nat.ne_of_lt (Nat.lt_of_lt_of_le En0.lt (Nat.le_of_eq g1.symm))
 have ne_x0a_b1 : x0a ≠ b1 := Nat.ne_of_lt (Nat.lt_of_lt_of_le Ex0.lt (Nat.le_of_eq g1.symm))
 have ne_x1a_b1 : x1a ≠ b1 := Nat.ne_of_lt (Nat.lt_of_lt_of_le Ex1.lt (Nat.le_of_eq g1.symm))
 have ne_x2a_b1 : x2a ≠ b1 := Nat.ne_of_lt (Nat.lt_of_lt_of_le Ex2.lt (Nat.le_of_eq g1.symm))
 have g_b1 : n0 ≤ b1 := Nat.le_trans Z0 (Nat.le_of_eq g1.symm)
 have Z1 : n0 ≤ h1.size := Nat.le_trans Z0 E1.1
 have sz_b1 : h0.size ≤ b1 := Nat.le_trans (Keep.refl h0 []).1 (Nat.le_of_eq g1.symm)
 have K1 : Keep h0 h1 [] := (Keep.refl h0 []).ext E1
 have U1 : Arv Z h1 b1 k1 (.object S0') (3 : Int32) [] .null := Arv.new A1 (by decide)
 have V1 : Arv Z h1 b1 k1 (.object S0') (3 : Int32) [.null, .null, .null] .null := U1.pad (pad_rep [] .null 3)
 refine ja (A := oW p e below T1 (jam m 19 (oR na) (oR b1) (oi 0) [(.ref x0a), (.int 0), (.ref b1)])) (fun t k => by
  refine XS.astoreN X1.here hx rfl (dd 3 rfl) rfl rfl (l' := #[(oR na), (oR b1), ou]) rfl ?_
  refine XS.iconst X1.here hx rfl (dd 4 rfl) ?_
  refine XS.istoreN X1.here hx rfl (dd 5 rfl) rfl (l' := #[(oR na), (oR b1), (oi 0)]) rfl ?_
  show oW p e below T1 (jam m 8 (oR na) (oR b1) (oi 0) []) _
  refine XS.iloadN X1.here hx rfl (dd 6 rfl) rfl ?_
  refine XS.aloadN X1.here hx rfl (dd 7 rfl) rfl rfl ?_
  refine jM X1 hx hZ e1 (Vn0.ext E1) (g := (jam m 10 (oR na) (oR b1) (oi 0) [(.ref na), (.int 0)])) rfl rfl (dd 8 rfl) _ ?_
  refine XS.icmpNo X1.here hx rfl (dd 9 rfl) rfl (tlt (by decide : (0 : Int32) < (3 : Int32))).2.1 ?_
  refine XS.aloadN X1.here hx rfl (dd 10 rfl) rfl rfl ?_
  show oW p e below T1 (jam m 15 (oR na) (oR b1) (oi 0) [(.ref b1)]) _
  refine XS.iloadN X1.here hx rfl (dd 11 rfl) rfl ?_
  refine XS.aloadN X1.here hx rfl (dd 12 rfl) rfl rfl ?_
  refine XS.iloadN X1.here hx rfl (dd 13 rfl) rfl ?_
  refine jbA X1 hx hZ e1 (Vn0.ext E1) ⟨by decide, by decide⟩ (v := (.ref x0a)) rfl (g := (jam m 18 (oR na) (oR b1) (oi 0) [(.int 0), (.ref na), (.int 0), (.ref b1)])) rfl rfl (dd 14 rfl) _ ?_
  exact k) ?_
 obtain ⟨_, T2, L2, X2, hQ2, st2⟩ := jH X1 hx hZ hown ow599 ow243 ow244 ow103 (jby l Z a0 hw [] x0a h1 n0 Z1 ) e1 (by decide) (g := (jam m 19 (oR na) (oR b1) (oi 0) [(.ref x0a), (.int 0), (.ref b1)])) rfl (by rw [hml]; rfl) (rest := [(.int 0), (.ref b1)]) rfl (lenOf jh rfl) rfl (W := 2) (Nat.le_of_eq rfl) (dd 15 rfl) (by decide)
 obtain ⟨rfl, N2q, eh2⟩ := hQ2
 have N2 := Fr.app N0 N2q
 refine ja st2 ?_
 obtain ⟨cl3, Ar3, q3, S3, N3, H3, G3⟩ := id (V1)
 have hi3 : ¬ ((0 : Int32) < 0 ∨ cl3.slots.size ≤ ((0 : Int32)).toNatClampNeg) := inb_of S3 ⟨by decide, by decide⟩
 obtain ⟨T4, h4, X4, e4, W4, st4⟩ := stR X2 hx hZ eh2 Ar3 (j := (0 : Int32)) hi3 rfl (Sto.ofV Ar3 q3 O1 (Ins.of_exa (Ex0.ext E1) ow85)) (g := (jam m 22 (oR na) (oR b1) (oi 0) [(.ref x0a), (.int 0), (.ref b1)])) rfl rfl (dd 16 rfl)
 refine ja st4 ?_
 have V4 : Arv Z h4 b1 k1 (.object S0') (3 : Int32) [(.ref x0a), .null, .null] .null := Arv.set Ar3 q3 S3 N3 H3 G3 rfl W4 0 rfl (Nat.le_of_ble_eq_true rfl)
 have f4_1 := (Vn0.ext E1).other W4 (ne_na_b1)
 have N4 := Fr.snoc X4 N2 g_b1
 have Z4 : n0 ≤ h4.size := Nat.le_trans Z1 (Keep.of_wr W4).1
 have K4 : Keep h0 h4 [] := K1.wr W4 (Or.inr sz_b1)
 refine ja (A := oW p e below T4 (jam m 19 (oR na) (oR b1) (oi 1) [(.ref x1a), (.int 1), (.ref b1)])) (fun t k => by
  refine XS.iinc X4.here hx rfl (dd 17 rfl) rfl (l' := #[(oR na), (oR b1), (oi 1)]) rfl ?_
  show oW p e below T4 (jam m 26 (oR na) (oR b1) (oi 1) []) _
  refine XS.goto X4.here hx rfl (pc0 := 26) (pc' := 8) rfl (dd 18 rfl) (by decide) (by decide) ?_
  refine XS.iloadN X4.here hx rfl (dd 6 rfl) rfl ?_
  refine XS.aloadN X4.here hx rfl (dd 7 rfl) rfl rfl ?_
  refine jM X4 hx hZ e4 f4_1 (g := (jam m 10 (oR na) (oR b1) (oi 1) [(.ref na), (.int 1)])) rfl rfl (dd 8 rfl) _ ?_
  refine XS.icmpNo X4.here hx rfl (dd 9 rfl) rfl (tlt (by decide : (1 : Int32) < (3 : Int32))).2.1 ?_
  show oW p e below T4 (jam m 14 (oR na) (oR b1) (oi 1) []) _
  refine XS.aloadN X4.here hx rfl (dd 10 rfl) rfl rfl ?_
  refine XS.iloadN X4.here hx rfl (dd 11 rfl) rfl ?_
  refine XS.aloadN X4.here hx rfl (dd 12 rfl) rfl rfl ?_
  refine XS.iloadN X4.here hx rfl (dd 13 rfl) rfl ?_
  refine jbA X4 hx hZ e4 f4_1 ⟨by decide, by decide⟩ (v := (.ref x1a)) rfl (g := (jam m 18 (oR na) (oR b1) (oi 1) [(.int 1), (.ref na), (.int 1), (.ref b1)])) rfl rfl (dd 14 rfl) _ ?_
  exact k) ?_
 obtain ⟨_, T5, L5, X5, hQ5, st5⟩ := jH X4 hx hZ hown ow599 ow243 ow244 ow103 (jby l Z a0 hw [] x1a h4 n0 Z4 ) e4 (by decide) (g := (jam m 19 (oR na) (oR b1) (oi 1) [(.ref x1a), (.int 1), (.ref b1)])) rfl (by rw [hml]; rfl) (rest := [(.int 1), (.ref b1)]) rfl (lenOf jh rfl) rfl (W := 2) (Nat.le_of_eq rfl) (dd 15 rfl) (by decide)
 obtain ⟨rfl, N5q, eh5⟩ := hQ5
 have N5 := Fr.app N4 N5q
 refine ja st5 ?_
 obtain ⟨cl6, Ar6, q6, S6, N6, H6, G6⟩ := id (V4)
 have hi6 : ¬ ((1 : Int32) < 0 ∨ cl6.slots.size ≤ ((1 : Int32)).toNatClampNeg) := inb_of S6 ⟨by decide, by decide⟩
 obtain ⟨T7, h7, X7, e7, W7, st7⟩ := stR X5 hx hZ eh5 Ar6 (j := (1 : Int32)) hi6 rfl (Sto.ofV Ar6 q6 O1 (Ins.of_exa ((Ex1.ext E1).wr W4) ow85)) (g := (jam m 22 (oR na) (oR b1) (oi 1) [(.ref x1a), (.int 1), (.ref b1)])) rfl rfl (dd 16 rfl)
 refine ja st7 ?_
 have V7 : Arv Z h7 b1 k1 (.object S0') (3 : Int32) [(.ref x0a), (.ref x1a), .null] .null := Arv.set Ar6 q6 S6 N6 H6 G6 rfl W7 1 rfl (Nat.le_of_ble_eq_true rfl)
 have f7_1 := f4_1.other W7 (ne_na_b1)
 have N7 := Fr.snoc X7 N5 g_b1
 have Z7 : n0 ≤ h7.size := Nat.le_trans Z4 (Keep.of_wr W7).1
 have K7 : Keep h0 h7 [] := K4.wr W7 (Or.inr sz_b1)
 refine ja (A := oW p e below T7 (jam m 19 (oR na) (oR b1) (oi 2) [(.ref x2a), (.int 2), (.ref b1)])) (fun t k => by
  refine XS.iinc X7.here hx rfl (dd 17 rfl) rfl (l' := #[(oR na), (oR b1), (oi 2)]) rfl ?_
  refine XS.goto X7.here hx rfl (pc0 := 26) (pc' := 8) rfl (dd 18 rfl) (by decide) (by decide) ?_
  refine XS.iloadN X7.here hx rfl (dd 6 rfl) rfl ?_
  refine XS.aloadN X7.here hx rfl (dd 7 rfl) rfl rfl ?_
  refine jM X7 hx hZ e7 f7_1 (g := (jam m 10 (oR na) (oR b1) (oi 2) [(.ref na), (.int 2)])) rfl rfl (dd 8 rfl) _ ?_
  show oW p e below T7 (jam m 11 (oR na) (oR b1) (oi 2) [(.int 3), (.int 2)]) _
  refine XS.icmpNo X7.here hx rfl (dd 9 rfl) rfl (tlt (by decide : (2 : Int32) < (3 : Int32))).2.1 ?_
  refine XS.aloadN X7.here hx rfl (dd 10 rfl) rfl rfl ?_
  refine XS.iloadN X7.here hx rfl (dd 11 rfl) rfl ?_
  refine XS.aloadN X7.here hx rfl (dd 12 rfl) rfl rfl ?_
  refine XS.iloadN X7.here hx rfl (dd 13 rfl) rfl ?_
  show oW p e below T7 (jam m 18 (oR na) (oR b1) (oi 2) [(.int 2), (.ref na), (.int 2), (.ref b1)]) _
  refine jbA X7 hx hZ e7 f7_1 ⟨by decide, by decide⟩ (v := (.ref x2a)) rfl (g := (jam m 18 (oR na) (oR b1) (oi 2) [(.int 2), (.ref na), (.int 2), (.ref b1)])) rfl rfl (dd 14 rfl) _ ?_
  exact k) ?_
 obtain ⟨_, T8, L8, X8, hQ8, st8⟩ := jH X7 hx hZ hown ow599 ow243 ow244 ow103 (jby l Z a0 hw [] x2a h7 n0 Z7 ) e7 (by decide) (g := (jam m 19 (oR na) (oR b1) (oi 2) [(.ref x2a), (.int 2), (.ref b1)])) rfl (by rw [hml]; rfl) (rest := [(.int 2), (.ref b1)]) rfl (lenOf jh rfl) rfl (W := 2) (Nat.le_of_eq rfl) (dd 15 rfl) (by decide)
 obtain ⟨rfl, N8q, eh8⟩ := hQ8
 have N8 := Fr.app N7 N8q
 refine ja st8 ?_
 obtain ⟨cl9, Ar9, q9, S9, N9, H9, G9⟩ := id (V7)
 have hi9 : ¬ ((2 : Int32) < 0 ∨ cl9.slots.size ≤ ((2 : Int32)).toNatClampNeg) := inb_of S9 ⟨by decide, by decide⟩
 obtain ⟨T10, h10, X10, e10, W10, st10⟩ := stR X8 hx hZ eh8 Ar9 (j := (2 : Int32)) hi9 rfl (Sto.ofV Ar9 q9 O1 (Ins.of_exa (((Ex2.ext E1).wr W4).wr W7) ow85)) (g := (jam m 22 (oR na) (oR b1) (oi 2) [(.ref x2a), (.int 2), (.ref b1)])) rfl rfl (dd 16 rfl)
 refine ja st10 ?_
 have V10 : Arv Z h10 b1 k1 (.object S0') (3 : Int32) [(.ref x0a), (.ref x1a), (.ref x2a)] .null := Arv.set Ar9 q9 S9 N9 H9 G9 rfl W10 2 rfl (Nat.le_of_ble_eq_true rfl)
 have f10_1 := f7_1.other W10 (ne_na_b1)
 have N10 := Fr.snoc X10 N8 g_b1
 have Z10 : n0 ≤ h10.size := Nat.le_trans Z7 (Keep.of_wr W10).1
 have K10 : Keep h0 h10 [] := K7.wr W10 (Or.inr sz_b1)
 refine ja (A := oW p e below T10 (jam m 29 (oR na) (oR b1) (oi 3) [])) (fun t k => by
  refine XS.iinc X10.here hx rfl (dd 17 rfl) rfl (l' := #[(oR na), (oR b1), (oi 3)]) rfl ?_
  refine XS.goto X10.here hx rfl (pc0 := 26) (pc' := 8) rfl (dd 18 rfl) (by decide) (by decide) ?_
  refine XS.iloadN X10.here hx rfl (dd 6 rfl) rfl ?_
  refine XS.aloadN X10.here hx rfl (dd 7 rfl) rfl rfl ?_
  show oW p e below T10 (jam m 10 (oR na) (oR b1) (oi 3) [(.ref na), (.int 3)]) _
  refine jM X10 hx hZ e10 f10_1 (g := (jam m 10 (oR na) (oR b1) (oi 3) [(.ref na), (.int 3)])) rfl rfl (dd 8 rfl) _ ?_
  refine XS.icmpYes X10.here hx rfl (pc0 := 11) (pc' := 29) rfl (dd 9 rfl) rfl (flt (by decide : ¬ ((3 : Int32) < (3 : Int32)))).2.1 (by decide) (by decide) ?_
  exact k) ?_
 obtain ⟨T11, h11, X11, e11, E11, A11, D11, -, st11⟩ := newO X10 hx hZ hown ow178 ow600 ow601 e10 (g := (jam m 29 (oR na) (oR b1) (oi 3) [])) rfl (dd 19 rfl) (by decide) (by decide)
 obtain ⟨b11, g11⟩ : ∃ z, z = h10.size := ⟨_, rfl⟩
 rw [← g11] at A11 D11 st11
 refine ja st11 ?_
 have ne_na_b11 : na ≠ b11 := Nat.ne_of_lt (Nat.lt_of_lt_of_le ((((En0.ext E1).wr W4).wr W7).wr W10).lt (Nat.le_of_eq g11.symm))
 have ne_x0a_b11 : x0a ≠ b11 := Nat.ne_of_lt (Nat.lt_of_lt_of_le ((((Ex0.ext E1).wr W4).wr W7).wr W10).lt (Nat.le_of_eq g11.symm))
 have ne_x1a_b11 : x1a ≠ b11 := Nat.ne_of_lt (Nat.lt_of_lt_of_le ((((Ex1.ext E1).wr W4).wr W7).wr W10).lt (Nat.le_of_eq g11.symm))
 have ne_x2a_b11 : x2a ≠ b11 := Nat.ne_of_lt (Nat.lt_of_lt_of_le ((((Ex2.ext E1).wr W4).wr W7).wr W10).lt (Nat.le_of_eq g11.symm))
 have ne_b1_b11 : b1 ≠ b11 := Nat.ne_of_lt (Nat.lt_of_lt_of_le V10.lt (Nat.le_of_eq g11.symm))
 have g_b11 : n0 ≤ b11 := Nat.le_trans Z10 (Nat.le_of_eq g11.symm)
 have Z11 : n0 ≤ h11.size := Nat.le_trans Z10 E11.1
 have sz_b11 : h0.size ≤ b11 := Nat.le_trans K10.1 (Nat.le_of_eq g11.symm)
 have K11 : Keep h0 h11 [] := K10.ext E11
 have F11_elements : Fld Z h11 b11 S17' S30' S4' .null := D11 (Or.inr ow611) (ty := (.array (.object S0'))) (by decide)
 have F11_allowNulls : Fld Z h11 b11 S17' S56' "Z" (.int 0) := D11 (Or.inr ow613) (ty := .boolean) (by decide)
 refine ja (A := oW p e below T11 (jam m 35 (oR na) (oR b1) (oi 3) [(.int 0), (.ref b1), (.ref b11), (.ref b11)])) (fun t k => by
  refine XS.dup X11.here hx rfl (dd 20 rfl) rfl rfl ?_
  refine XS.aloadN X11.here hx rfl (dd 21 rfl) rfl rfl ?_
  refine XS.iconst X11.here hx rfl (dd 22 rfl) ?_
  exact k) ?_
 obtain ⟨_, _, ⟨T12, L12, k12, n12⟩, -, X12, ⟨Lc12, hQ12, l12, y12, z12⟩, st12⟩ := X11.specialBackNest hx (y := M8') rfl hown (Cond.methodLinkNest_wide hZ ow602 :) (mvT hZ ow603) (mvT hZ ow605) (by decide) (backOf (W := 1) (jhj l Z a0 hw [] b11 b1 h11 n0 Z11 A11 g_b11 F11_elements F11_allowNulls) hZ ow605 ow601 (by decide) (by decide)) (g := (jam m 35 (oR na) (oR b1) (oi 3) [(.int 0), (.ref b1), (.ref b11), (.ref b11)])) rfl (by rw [hml]; rfl) (Steps.refl _) (a := b11) (argsL := [(.ref b1), (.int 0)]) (rest := [(.ref b11)]) (lenOf jaP rfl) rfl (by show 2 * 0 + _ ≤ _; exact Nat.le_of_eq rfl) (dd 23 rfl) (fun _ _ => ⟨rfl, e11, (by decide : 2 + 0 ≤ _), (by decide : 5 + 0 ≤ _)⟩)
 dsimp only [Pt.U, Pt.locs, Pt.cells, Pt.slots] at X12 l12 y12 z12 st12 hQ12
 subst l12 y12 z12
 obtain ⟨rfl, N12q, K12q, p12_0, p12_1⟩ := hQ12
 have N12 := Fr.app N10 N12q
 have f12_1 := (f10_1.ext E11).keep K12q (ninS ne_na_b11 nin0)
 have f12_5 := (V10.ext E11).keep K12q (ninS ne_b1_b11 nin0)
 have Z12 : n0 ≤ T12.heap.size := Nat.le_trans Z11 K12q.1
 have K12 : Keep h0 T12.heap [] := K11.trans K12q (allS (Or.inr sz_b11) all0)
 refine ja (fun _ k => st12.trans k) ?_
 refine jE X12 hx Bd hPf (by decide) (by decide) rfl rfl rfl (dd 24 rfl) ?_
 exact ⟨b11, b1, k1, rfl, N12, K12, sz_b11, (A11.keep K12q), p12_0, (((((Q1.wr W4).wr W7).wr W10).ext E11).keep K12q), f12_5⟩
abbrev jco (m : MethodId) (pc : Nat) (a0 a1 : Slot) (S : List Value) : JFrame := mkF m pc #[a0, a1] S
theorem oD40_47j : oDec jdk_40_method_47_code [(0, .aload_n 0, 1), (1, .arraylength, 1), (2, .tableswitch 57 0 2 #[26, 32, 43], 26), (28, .getstatic 90, 3), (31, .astore_n 1, 1), (32, .aload_n 1, 1), (33, .areturn, 1), (34, .new 96, 3), (37, .dup, 1), (38, .aload_n 0, 1), (39, .iconst 0, 1), (40, .aaload, 1), (41, .invokespecial 98, 3), (44, .areturn, 1), (45, .new 96, 3), (48, .dup, 1), (49, .aload_n 0, 1), (50, .iconst 0, 1), (51, .aaload, 1), (52, .aload_n 0, 1), (53, .iconst 1, 1), (54, .aaload, 1), (55, .invokespecial 100, 3), (58, .areturn, 1), (59, .aload_n 0, 1), (60, .invokestatic 109, 3), (63, .areturn, 1)] := by decide +kernel
theorem jbe : parseMethodDescriptor "(Ljava/lang/Object;)V" = some ⟨[(.object "java/lang/Object")], none⟩ := by decide +kernel
def jhm (Z : State) (na : Addr) (em : Addr) (kn : ClassId) (x0a : Addr) (h0 : Heap) (n0 : Nat) (v : Option Value) (h : Heap) (L : List Loc) : Prop := ∃ wl : Addr, v = some (.ref wl) ∧ Fr n0 L ∧ Keep h0 h [] ∧ h0.size ≤ wl ∧ Exa Z h wl S11' ∧ Fld Z h wl S11' "e0" S9' (.ref x0a) ∧ Fld Z h wl S11' "e1" S9' (.ref em)
theorem jX : plainName "java/util/List" = true := by first | (simp [plainName, overriddenIn]; done) | decide +kernel
theorem jfj (l : Launch) (Z : State) (a0 : Array Value) (hw : oH a0 Z) (ws : List Jvm.Cond) (na : Addr) (em : Addr) (kn : ClassId) (x0a : Addr) (h0 : Heap) (n0 : Nat) (Z0 : n0 ≤ h0.size) (Se0 : Sta Z h0 S29' "EMPTY" S9' (.ref em)) (Em1 : Exa Z h0 em S0') (En0 : Exa Z h0 na S4') (Vn0 : Arv Z h0 na kn (.object S0') (1 : Int32) [(.ref x0a)] .null) (Ex0 : Exa Z h0 x0a S2') :
  ji l Z M9' jdk_40_method_47_code 2 (some (.object S24')) ws ({ frames := 5, cells := 1, slots := 2, locals := 62 } : Room) #[(.ref na)] h0 (jhm Z na em kn x0a h0 n0) := by
 refine jb (plainFor_of_name jX) (fun m => jaX m na) ?_
 intro p e s m below meth c s₁ Bd hx hby hml hown hZ X0 e0 Pf hPf
 have N0 := Fr.nil n0
 have dd := oD40_47j.hb hby
 have ow221 := ow hw 221 rfl
 have ow222 := ow hw 222 rfl
 have ow223 := ow hw 223 rfl
 have ow224 := ow hw 224 rfl
 have ow225 := ow hw 225 rfl
 have ow227 := ow hw 227 rfl
 have ow246 := ow hw 246 rfl
 have ow249 := ow hw 249 rfl
 refine ja (A := oW p e below s₁ (jco m 34 (oR na) ou [])) (fun t k => by
  refine XS.aloadN X0.here hx rfl (dd 0 rfl) rfl rfl ?_
  refine jM X0 hx hZ e0 Vn0 (g := (jco m 1 (oR na) ou [(.ref na)])) rfl rfl (dd 1 rfl) _ ?_
  refine X0.tableswitchIn hx (g := (jco m 2 (oR na) ou [(.int 1)])) rfl (k := (1 : Int32)) (rest := []) rfl (dd 2 rfl) (by decide) (off := 32) rfl (by show (0 : Int) ≤ ((2 : Nat) : Int) + _; decide) _ ?_
  exact k) ?_
 obtain ⟨T1, h1, X1, e1, E1, A1, D1, -, st1⟩ := newO X0 hx hZ hown ow221 ow222 ow223 e0 (g := (jco m 34 (oR na) ou [])) rfl (dd 7 rfl) (by decide) (by decide)
 obtain ⟨b1, g1⟩ : ∃ z, z = h0.size := ⟨_, rfl⟩
 rw [← g1] at A1 D1 st1
 refine ja st1 ?_
 have ne_na_b1 : na ≠ b1 := Nat.ne_of_lt (Nat.lt_of_lt_of_le En0.lt (Nat.le_of_eq g1.symm))
 have ne_x0a_b1 : x0a ≠ b1 := Nat.ne_of_lt (Nat.lt_of_lt_of_le Ex0.lt (Nat.le_of_eq g1.symm))
 have ne_em_b1 : em ≠ b1 := Nat.ne_of_lt (Nat.lt_of_lt_of_le Em1.lt (Nat.le_of_eq g1.symm))
 have g_b1 : n0 ≤ b1 := Nat.le_trans Z0 (Nat.le_of_eq g1.symm)
 have Z1 : n0 ≤ h1.size := Nat.le_trans Z0 E1.1
 have sz_b1 : h0.size ≤ b1 := Nat.le_trans (Keep.refl h0 []).1 (Nat.le_of_eq g1.symm)
 have K1 : Keep h0 h1 [] := (Keep.refl h0 []).ext E1
 have F1_e0 : Fld Z h1 b1 S11' "e0" S9' .null := D1 (Or.inr ow246) (ty := (.object S0')) (by decide)
 have F1_e1 : Fld Z h1 b1 S11' "e1" S9' .null := D1 (Or.inr ow249) (ty := (.object S0')) (by decide)
 refine ja (A := oW p e below T1 (jco m 41 (oR na) ou [(.ref x0a), (.ref b1), (.ref b1)])) (fun t k => by
  refine XS.dup X1.here hx rfl (dd 8 rfl) rfl rfl ?_
  refine XS.aloadN X1.here hx rfl (dd 9 rfl) rfl rfl ?_
  show oW p e below T1 (jco m 39 (oR na) ou [(.ref na), (.ref b1), (.ref b1)]) _
  refine XS.iconst X1.here hx rfl (dd 10 rfl) ?_
  refine jbA X1 hx hZ e1 (Vn0.ext E1) ⟨by decide, by decide⟩ (v := (.ref x0a)) rfl (g := (jco m 40 (oR na) ou [(.int 0), (.ref na), (.ref b1), (.ref b1)])) rfl rfl (dd 11 rfl) _ ?_
  exact k) ?_
 obtain ⟨_, T2, L2, X2, hQ2, st2⟩ := jaF X1 hx hZ hown ow224 ow225 ow227 ow223 (jfh l Z a0 hw [] b1 x0a em h1 n0 Z1 (Se0.ext E1) (Em1.ext E1) A1 g_b1 F1_e0 F1_e1) e1 rfl (by decide) (g := (jco m 41 (oR na) ou [(.ref x0a), (.ref b1), (.ref b1)])) rfl (by rw [hml]; rfl) (rest := [(.ref b1)]) rfl (lenOf jbe rfl) rfl (W := 1) (Nat.le_of_eq rfl) (dd 12 rfl) (by decide)
 obtain ⟨rfl, N2q, K2q, p2_0, p2_1⟩ := hQ2
 have N2 := Fr.app N0 N2q
 have f2_0 := jC (Se0.ext E1) K2q (allS (jaZ A1) all0)
 have f2_3 := (Vn0.ext E1).keep K2q (ninS ne_na_b1 nin0)
 have Z2 : n0 ≤ T2.heap.size := Nat.le_trans Z1 K2q.1
 have K2 : Keep h0 T2.heap [] := K1.trans K2q (allS (Or.inr sz_b1) all0)
 refine ja st2 ?_
 refine jE X2 hx Bd hPf (by decide) (by decide) rfl rfl rfl (dd 13 rfl) ?_
 exact ⟨b1, rfl, N2, K2, sz_b1, (A1.keep K2q), p2_0, p2_1⟩
abbrev jbW (m : MethodId) (pc : Nat) (a0 a1 : Slot) (S : List Value) : JFrame := mkF m pc #[a0, a1] S
theorem oD56_3j : oDec jdk_56_method_3_code [(0, .aload_n 0, 1), (1, .instanceof 10, 3), (4, .ifCond .ne 22, 3), (7, .aload_n 0, 1), (8, .instanceof 12, 3), (11, .ifCond .eq 20, 3), (14, .aload_n 0, 1), (15, .checkcast 12, 3), (18, .astore_n 1, 1), (19, .aload_n 1, 1), (20, .getfield 14, 3), (23, .ifCond .ne 8, 3), (26, .aload_n 0, 1), (27, .checkcast 18, 3), (30, .areturn, 1), (31, .aload_n 0, 1), (32, .invokeinterface 20 1, 5), (37, .ifCond .eq 7, 3), (40, .invokestatic 26, 3), (43, .areturn, 1), (44, .aload_n 0, 1), (45, .invokeinterface 30 1, 5), (50, .invokestatic 34, 3), (53, .areturn, 1)] := by decide +kernel
theorem jt : parseMethodDescriptor "([Ljava/lang/Object;)Ljava/util/List;" = some ⟨[(.array (.object "java/lang/Object"))], some (.object "java/util/List")⟩ := by decide +kernel
def jhn (Z : State) (pa : Addr) (em : Addr) (mo ea : Addr) (ke : ClassId) (x0a : Addr) (h0 : Heap) (n0 : Nat) (v : Option Value) (h : Heap) (L : List Loc) : Prop := ∃ wl : Addr, v = some (.ref wl) ∧ Fr n0 L ∧ Keep h0 h [] ∧ h0.size ≤ wl ∧ Exa Z h wl S11' ∧ Fld Z h wl S11' "e0" S9' (.ref x0a) ∧ Fld Z h wl S11' "e1" S9' (.ref em)
theorem jfk (l : Launch) (Z : State) (a0 : Array Value) (hw : oH a0 Z) (ws : List Jvm.Cond) (pa : Addr) (em : Addr) (mo ea : Addr) (ke : ClassId) (x0a : Addr) (h0 : Heap) (n0 : Nat) (Z0 : n0 ≤ h0.size) (Se0 : Sta Z h0 S29' "EMPTY" S9' (.ref em)) (Em1 : Exa Z h0 em S0') (hmo : Mir Z S4' mo) (Ea0 : Exa Z h0 pa S3') (Fe0 : Fld Z h0 pa S3' S15' S4' (.ref ea)) (Fs0 : Fld Z h0 pa S3' S8' "I" (.int 1)) (Eo0 : Exa Z h0 ea S4') (Vo0 : Arv Z h0 ea ke (.object S0') (10 : Int32) [(.ref x0a), .null, .null, .null, .null, .null, .null, .null, .null, .null] .null) (Ex0 : Exa Z h0 x0a S2') :
  ji l Z M10' jdk_56_method_3_code 2 (some (.object S24')) ws ({ frames := 6, cells := 2, slots := 3, locals := 104 } : Room) #[(.ref pa)] h0 (jhn Z pa em mo ea ke x0a h0 n0) := by
 refine jb (plainFor_of_name jL) (fun m => jaX m pa) ?_
 intro p e s m below meth c s₁ Bd hx hby hml hown hZ X0 e0 Pf hPf
 have N0 := Fr.nil n0
 have dd := oD56_3j.hb hby
 have ow3 := ow hw 3 rfl
 have ow167 := ow hw 167 rfl
 have ow173 := ow hw 173 rfl
 have ow174 := ow hw 174 rfl
 have ow175 := ow hw 175 rfl
 have ow176 := ow hw 176 rfl
 have ow177 := ow hw 177 rfl
 have ow178 := ow hw 178 rfl
 have ow179 := ow hw 179 rfl
 have ow180 := ow hw 180 rfl
 have ow181 := ow hw 181 rfl
 have ow182 := ow hw 182 rfl
 have ow183 := ow hw 183 rfl
 have ow184 := ow hw 184 rfl
 have ow185 := ow hw 185 rfl
 have ow186 := ow hw 186 rfl
 have ow187 := ow hw 187 rfl
 have ow188 := ow hw 188 rfl
 have ow189 := ow hw 189 rfl
 have ow190 := ow hw 190 rfl
 have ow191 := ow hw 191 rfl
 have ow192 := ow hw 192 rfl
 have ow193 := ow hw 193 rfl
 have ow194 := ow hw 194 rfl
 have ow195 := ow hw 195 rfl
 have ow218 := ow hw 218 rfl
 have ow219 := ow hw 219 rfl
 have ow220 := ow hw 220 rfl
 have ow222 := ow hw 222 rfl
 have ow600 := ow hw 600 rfl
 refine ja (A := oW p e below s₁ (jbW m 1 (oR pa) ou [(.ref pa)])) (fun t k => by
  refine XS.aloadN X0.here hx rfl (dd 0 rfl) rfl rfl ?_
  exact k) ?_
 obtain ⟨T1, X1, e1, st1⟩ := instNo X0 hx hZ hown ow173 e0 Ea0 (jcs ow174 ow222 (NS.step ow174 (NS.step ow175 (NS.step ow176 (jbw ow177 ow222 (by decide)) (by decide)) (by decide)) (by decide)) (by decide)) (g := (jbW m 1 (oR pa) ou [(.ref pa)])) rfl rfl (dd 1 rfl)
 refine ja st1 ?_
 refine ja (A := oW p e below T1 (jbW m 8 (oR pa) ou [(.ref pa)])) (fun t k => by
  refine XS.ifNo X1.here hx rfl (dd 2 rfl) rfl ((if0 _ _).trans (teq (by decide : (0 : Int32) = (0 : Int32))).2) ?_
  refine XS.aloadN X1.here hx rfl (dd 3 rfl) rfl rfl ?_
  exact k) ?_
 obtain ⟨T2, X2, e2, st2⟩ := instNo X1 hx hZ hown ow178 e1 Ea0 (jcs ow174 ow600 (NS.step ow174 (NS.step ow175 (NS.step ow176 (jbw ow177 ow600 (by decide)) (by decide)) (by decide)) (by decide)) (by decide)) (g := (jbW m 8 (oR pa) ou [(.ref pa)])) rfl rfl (dd 4 rfl)
 refine ja st2 ?_
 refine ja (A := oW p e below T2 (jbW m 32 (oR pa) ou [(.ref pa)])) (fun t k => by
  refine XS.ifYes X2.here hx rfl (pc0 := 11) (pc' := 31) rfl (dd 5 rfl) rfl ((if0 _ _).trans (teq (by decide : (0 : Int32) = (0 : Int32))).1) (by decide) (by decide) ?_
  refine XS.aloadN X2.here hx rfl (dd 15 rfl) rfl rfl ?_
  exact k) ?_
 obtain ⟨_, T3, L3, X3, hQ3, st3⟩ := jaI X2 hx hZ hown ow179 ow180 ow182 ow183 (mvT hZ ow181) ow184 ow185 ow186 ow187 ow3 (jcW l Z a0 hw [] pa (1 : Int32) h0 n0 Z0 Fs0 (by decide)) e2 Ea0 (by decide) (g := (jbW m 32 (oR pa) ou [(.ref pa)])) rfl (by rw [hml]; rfl) (rest := []) rfl (lenOf jaJ rfl) rfl (W := 0) (Nat.le_of_eq rfl) (dd 16 rfl) (by decide)
 obtain ⟨rfl, N3q, eh3⟩ := hQ3
 have N3 := Fr.app N0 N3q
 refine ja st3 ?_
 refine ja (A := oW p e below T3 (jbW m 45 (oR pa) ou [(.ref pa)])) (fun t k => by
  refine XS.ifYes X3.here hx rfl (pc0 := 37) (pc' := 44) rfl (dd 17 rfl) rfl ((if0 _ _).trans (teq (by decide : (0 : Int32) = (0 : Int32))).1) (by decide) (by decide) ?_
  refine XS.aloadN X3.here hx rfl (dd 20 rfl) rfl rfl ?_
  exact k) ?_
 obtain ⟨_, T4, L4, X4, hQ4, st4⟩ := jaI X3 hx hZ hown ow188 ow189 ow191 ow192 (mvT hZ ow190) ow193 ow194 ow186 ow195 ow3 (jeY l Z a0 hw [] pa mo ea ke x0a h0 n0 Z0 hmo Ea0 Fe0 Fs0 Eo0 Vo0 Ex0) eh3 Ea0 (by decide) (g := (jbW m 45 (oR pa) ou [(.ref pa)])) rfl (by rw [hml]; rfl) (rest := []) rfl (lenOf jR rfl) rfl (W := 0) (Nat.le_of_eq rfl) (dd 21 rfl) (by decide)
 obtain ⟨na, kn, rfl, N4q, K4q, s_na, p4_0, p4_1, p4_2⟩ := hQ4
 have N4 := Fr.app N3 N4q
 have g_na : n0 ≤ na := Nat.le_trans Z0 s_na
 have sz_na : h0.size ≤ na := Nat.le_trans (Keep.refl h0 []).1 s_na
 have ne_pa_na : pa ≠ na := Nat.ne_of_lt (Nat.lt_of_lt_of_le Ea0.lt s_na)
 have ne_ea_na : ea ≠ na := Nat.ne_of_lt (Nat.lt_of_lt_of_le Eo0.lt s_na)
 have ne_x0a_na : x0a ≠ na := Nat.ne_of_lt (Nat.lt_of_lt_of_le Ex0.lt s_na)
 have ne_em_na : em ≠ na := Nat.ne_of_lt (Nat.lt_of_lt_of_le Em1.lt s_na)
 have f4_0 := jC Se0 K4q all0
 have f4_3 := Fe0.keep K4q nin0
 have f4_4 := Fs0.keep K4q nin0
 have f4_6 := Vo0.keep K4q nin0
 have Z4 : n0 ≤ T4.heap.size := Nat.le_trans Z0 K4q.1
 have K4 : Keep h0 T4.heap [] := (Keep.refl h0 []).trans K4q all0
 refine ja st4 ?_
 obtain ⟨_, T5, L5, X5, hQ5, st5⟩ := jH X4 hx hZ hown ow218 ow219 ow220 ow167 (jfj l Z a0 hw [] na em kn x0a T4.heap n0 Z4 f4_0 (Em1.keep K4q) p4_0 p4_2 (Ex0.keep K4q)) rfl (by decide) (g := (jbW m 50 (oR pa) ou [(.ref na)])) rfl (by rw [hml]; rfl) (rest := []) rfl (lenOf jt rfl) rfl (W := 0) (Nat.le_of_eq rfl) (dd 22 rfl) (by decide)
 obtain ⟨wl, rfl, N5q, K5q, s_wl, p5_0, p5_1, p5_2⟩ := hQ5
 have N5 := Fr.app N4 N5q
 have g_wl : n0 ≤ wl := Nat.le_trans Z4 s_wl
 have sz_wl : h0.size ≤ wl := Nat.le_trans K4.1 s_wl
 have ne_pa_wl : pa ≠ wl := Nat.ne_of_lt (Nat.lt_of_lt_of_le (Ea0.keep K4q).lt s_wl)
 have ne_ea_wl : ea ≠ wl := Nat.ne_of_lt (Nat.lt_of_lt_of_le (Eo0.keep K4q).lt s_wl)
 have ne_x0a_wl : x0a ≠ wl := Nat.ne_of_lt (Nat.lt_of_lt_of_le (Ex0.keep K4q).lt s_wl)
 have ne_em_wl : em ≠ wl := Nat.ne_of_lt (Nat.lt_of_lt_of_le (Em1.keep K4q).lt s_wl)
 have ne_na_wl : na ≠ wl := Nat.ne_of_lt (Nat.lt_of_lt_of_le p4_0.lt s_wl)
 have f5_0 := jC f4_0 K5q all0
 have f5_3 := f4_3.keep K5q nin0
 have f5_4 := f4_4.keep K5q nin0
 have f5_6 := f4_6.keep K5q nin0
 have f5_9 := p4_2.keep K5q nin0
 have Z5 : n0 ≤ T5.heap.size := Nat.le_trans Z4 K5q.1
 have K5 : Keep h0 T5.heap [] := K4.trans K5q all0
 refine ja st5 ?_
 refine jE X5 hx Bd hPf (by decide) (by decide) rfl rfl rfl (dd 23 rfl) ?_
 exact ⟨wl, rfl, N5, K5, sz_wl, p5_0, p5_1, p5_2⟩
abbrev jiY (m : MethodId) (pc : Nat) (a0 : Slot) (S : List Value) : JFrame := mkF m pc #[a0] S
theorem oD40_48j : oDec jdk_40_method_48_code [(0, .aload_n 0, 1), (1, .invokestatic 112, 3), (4, .areturn, 1)] := by decide +kernel
theorem jq : parseMethodDescriptor "(Ljava/util/Collection;)Ljava/util/List;" = some ⟨[(.object "java/util/Collection")], some (.object "java/util/List")⟩ := by decide +kernel
def jho (Z : State) (pa : Addr) (em : Addr) (mo ea : Addr) (ke : ClassId) (x0a : Addr) (h0 : Heap) (n0 : Nat) (v : Option Value) (h : Heap) (L : List Loc) : Prop := ∃ wl : Addr, v = some (.ref wl) ∧ Fr n0 L ∧ Keep h0 h [] ∧ h0.size ≤ wl ∧ Exa Z h wl S11' ∧ Fld Z h wl S11' "e0" S9' (.ref x0a) ∧ Fld Z h wl S11' "e1" S9' (.ref em)
theorem jfl (l : Launch) (Z : State) (a0 : Array Value) (hw : oH a0 Z) (ws : List Jvm.Cond) (pa : Addr) (em : Addr) (mo ea : Addr) (ke : ClassId) (x0a : Addr) (h0 : Heap) (n0 : Nat) (Z0 : n0 ≤ h0.size) (Se0 : Sta Z h0 S29' "EMPTY" S9' (.ref em)) (Em1 : Exa Z h0 em S0') (hmo : Mir Z S4' mo) (Ea0 : Exa Z h0 pa S3') (Fe0 : Fld Z h0 pa S3' S15' S4' (.ref ea)) (Fs0 : Fld Z h0 pa S3' S8' "I" (.int 1)) (Eo0 : Exa Z h0 ea S4') (Vo0 : Arv Z h0 ea ke (.object S0') (10 : Int32) [(.ref x0a), .null, .null, .null, .null, .null, .null, .null, .null, .null] .null) (Ex0 : Exa Z h0 x0a S2') :
  ji l Z M11' jdk_40_method_48_code 1 (some (.object S24')) ws ({ frames := 8, cells := 3, slots := 8, locals := 117 } : Room) #[(.ref pa)] h0 (jho Z pa em mo ea ke x0a h0 n0) := by
 refine jb (plainFor_of_name jX) (fun m => jr m pa) ?_
 intro p e s m below meth c s₁ Bd hx hby hml hown hZ X0 e0 Pf hPf
 have N0 := Fr.nil n0
 have dd := oD40_48j.hb hby
 have ow169 := ow hw 169 rfl
 have ow170 := ow hw 170 rfl
 have ow171 := ow hw 171 rfl
 have ow172 := ow hw 172 rfl
 refine ja (A := oW p e below s₁ (jiY m 1 (oR pa) [(.ref pa)])) (fun t k => by
  refine XS.aloadN X0.here hx rfl (dd 0 rfl) rfl rfl ?_
  exact k) ?_
 obtain ⟨_, T1, L1, X1, hQ1, st1⟩ := jH X0 hx hZ hown ow169 ow170 ow172 ow171 (jfk l Z a0 hw [] pa em mo ea ke x0a h0 n0 Z0 Se0 Em1 hmo Ea0 Fe0 Fs0 Eo0 Vo0 Ex0) e0 (by decide) (g := (jiY m 1 (oR pa) [(.ref pa)])) rfl (by rw [hml]; rfl) (rest := []) rfl (lenOf jq rfl) rfl (W := 0) (Nat.le_of_eq rfl) (dd 1 rfl) (by decide)
 obtain ⟨wl, rfl, N1q, K1q, s_wl, p1_0, p1_1, p1_2⟩ := hQ1
 have N1 := Fr.app N0 N1q
 have g_wl : n0 ≤ wl := Nat.le_trans Z0 s_wl
 have sz_wl : h0.size ≤ wl := Nat.le_trans (Keep.refl h0 []).1 s_wl
 have ne_pa_wl : pa ≠ wl := Nat.ne_of_lt (Nat.lt_of_lt_of_le Ea0.lt s_wl)
 have ne_ea_wl : ea ≠ wl := Nat.ne_of_lt (Nat.lt_of_lt_of_le Eo0.lt s_wl)
 have ne_x0a_wl : x0a ≠ wl := Nat.ne_of_lt (Nat.lt_of_lt_of_le Ex0.lt s_wl)
 have ne_em_wl : em ≠ wl := Nat.ne_of_lt (Nat.lt_of_lt_of_le Em1.lt s_wl)
 have f1_0 := jC Se0 K1q all0
 have f1_3 := Fe0.keep K1q nin0
 have f1_4 := Fs0.keep K1q nin0
 have f1_6 := Vo0.keep K1q nin0
 have Z1 : n0 ≤ T1.heap.size := Nat.le_trans Z0 K1q.1
 have K1 : Keep h0 T1.heap [] := (Keep.refl h0 []).trans K1q all0
 refine ja st1 ?_
 refine jE X1 hx Bd hPf (by decide) (by decide) rfl rfl rfl (dd 2 rfl) ?_
 exact ⟨wl, rfl, N1, K1, sz_wl, p1_0, p1_1, p1_2⟩
abbrev jbX (m : MethodId) (pc : Nat) (a0 a1 : Slot) (S : List Value) : JFrame := mkF m pc #[a0, a1] S
theorem jai : parseMethodDescriptor "(Ljava/lang/Object;Ljava/lang/Object;)V" = some ⟨[(.object "java/lang/Object"), (.object "java/lang/Object")], none⟩ := by decide +kernel
def jhp (Z : State) (na : Addr) (kn : ClassId) (x0a x1a : Addr) (h0 : Heap) (n0 : Nat) (v : Option Value) (h : Heap) (L : List Loc) : Prop := ∃ wl : Addr, v = some (.ref wl) ∧ Fr n0 L ∧ Keep h0 h [] ∧ h0.size ≤ wl ∧ Exa Z h wl S11' ∧ Fld Z h wl S11' "e0" S9' (.ref x0a) ∧ Fld Z h wl S11' "e1" S9' (.ref x1a)
theorem jfm (l : Launch) (Z : State) (a0 : Array Value) (hw : oH a0 Z) (ws : List Jvm.Cond) (na : Addr) (kn : ClassId) (x0a x1a : Addr) (h0 : Heap) (n0 : Nat) (Z0 : n0 ≤ h0.size) (En0 : Exa Z h0 na S4') (Vn0 : Arv Z h0 na kn (.object S0') (2 : Int32) [(.ref x0a), (.ref x1a)] .null) (Ex0 : Exa Z h0 x0a S2') (Ex1 : Exa Z h0 x1a S2') :
  ji l Z M9' jdk_40_method_47_code 2 (some (.object S24')) ws ({ frames := 5, cells := 1, slots := 2, locals := 63 } : Room) #[(.ref na)] h0 (jhp Z na kn x0a x1a h0 n0) := by
 refine jb (plainFor_of_name jX) (fun m => jaX m na) ?_
 intro p e s m below meth c s₁ Bd hx hby hml hown hZ X0 e0 Pf hPf
 have N0 := Fr.nil n0
 have dd := oD40_47j.hb hby
 have ow221 := ow hw 221 rfl
 have ow222 := ow hw 222 rfl
 have ow223 := ow hw 223 rfl
 have ow246 := ow hw 246 rfl
 have ow249 := ow hw 249 rfl
 have ow592 := ow hw 592 rfl
 have ow593 := ow hw 593 rfl
 have ow594 := ow hw 594 rfl
 refine ja (A := oW p e below s₁ (jbX m 45 (oR na) ou [])) (fun t k => by
  refine XS.aloadN X0.here hx rfl (dd 0 rfl) rfl rfl ?_
  refine jM X0 hx hZ e0 Vn0 (g := (jbX m 1 (oR na) ou [(.ref na)])) rfl rfl (dd 1 rfl) _ ?_
  refine X0.tableswitchIn hx (g := (jbX m 2 (oR na) ou [(.int 2)])) rfl (k := (2 : Int32)) (rest := []) rfl (dd 2 rfl) (by decide) (off := 43) rfl (by show (0 : Int) ≤ ((2 : Nat) : Int) + _; decide) _ ?_
  exact k) ?_
 obtain ⟨T1, h1, X1, e1, E1, A1, D1, -, st1⟩ := newO X0 hx hZ hown ow221 ow222 ow223 e0 (g := (jbX m 45 (oR na) ou [])) rfl (dd 14 rfl) (by decide) (by decide)
 obtain ⟨b1, g1⟩ : ∃ z, z = h0.size := ⟨_, rfl⟩
 rw [← g1] at A1 D1 st1
 refine ja st1 ?_
 have ne_na_b1 : na ≠ b1 := Nat.ne_of_lt (Nat.lt_of_lt_of_le En0.lt (Nat.le_of_eq g1.symm))
 have ne_x0a_b1 : x0a ≠ b1 := Nat.ne_of_lt (Nat.lt_of_lt_of_le Ex0.lt (Nat.le_of_eq g1.symm))
 have ne_x1a_b1 : x1a ≠ b1 := Nat.ne_of_lt (Nat.lt_of_lt_of_le Ex1.lt (Nat.le_of_eq g1.symm))
 have g_b1 : n0 ≤ b1 := Nat.le_trans Z0 (Nat.le_of_eq g1.symm)
 have Z1 : n0 ≤ h1.size := Nat.le_trans Z0 E1.1
 have sz_b1 : h0.size ≤ b1 := Nat.le_trans (Keep.refl h0 []).1 (Nat.le_of_eq g1.symm)
 have K1 : Keep h0 h1 [] := (Keep.refl h0 []).ext E1
 have F1_e0 : Fld Z h1 b1 S11' "e0" S9' .null := D1 (Or.inr ow246) (ty := (.object S0')) (by decide)
 have F1_e1 : Fld Z h1 b1 S11' "e1" S9' .null := D1 (Or.inr ow249) (ty := (.object S0')) (by decide)
 refine ja (A := oW p e below T1 (jbX m 55 (oR na) ou [(.ref x1a), (.ref x0a), (.ref b1), (.ref b1)])) (fun t k => by
  refine XS.dup X1.here hx rfl (dd 15 rfl) rfl rfl ?_
  refine XS.aloadN X1.here hx rfl (dd 16 rfl) rfl rfl ?_
  show oW p e below T1 (jbX m 50 (oR na) ou [(.ref na), (.ref b1), (.ref b1)]) _
  refine XS.iconst X1.here hx rfl (dd 17 rfl) ?_
  refine jbA X1 hx hZ e1 (Vn0.ext E1) ⟨by decide, by decide⟩ (v := (.ref x0a)) rfl (g := (jbX m 51 (oR na) ou [(.int 0), (.ref na), (.ref b1), (.ref b1)])) rfl rfl (dd 18 rfl) _ ?_
  refine XS.aloadN X1.here hx rfl (dd 19 rfl) rfl rfl ?_
  refine XS.iconst X1.here hx rfl (dd 20 rfl) ?_
  refine jbA X1 hx hZ e1 (Vn0.ext E1) ⟨by decide, by decide⟩ (v := (.ref x1a)) rfl (g := (jbX m 54 (oR na) ou [(.int 1), (.ref na), (.ref x0a), (.ref b1), (.ref b1)])) rfl rfl (dd 21 rfl) _ ?_
  exact k) ?_
 obtain ⟨_, T2, L2, X2, hQ2, st2⟩ := jaF X1 hx hZ hown ow592 ow593 ow594 ow223 (jfi l Z a0 hw [] b1 x0a x1a h1 n0 Z1 A1 g_b1 F1_e0 F1_e1) e1 rfl (by decide) (g := (jbX m 55 (oR na) ou [(.ref x1a), (.ref x0a), (.ref b1), (.ref b1)])) rfl (by rw [hml]; rfl) (rest := [(.ref b1)]) rfl (lenOf jai rfl) rfl (W := 1) (Nat.le_of_eq rfl) (dd 22 rfl) (by decide)
 obtain ⟨rfl, N2q, K2q, p2_0, p2_1⟩ := hQ2
 have N2 := Fr.app N0 N2q
 have f2_1 := (Vn0.ext E1).keep K2q (ninS ne_na_b1 nin0)
 have Z2 : n0 ≤ T2.heap.size := Nat.le_trans Z1 K2q.1
 have K2 : Keep h0 T2.heap [] := K1.trans K2q (allS (Or.inr sz_b1) all0)
 refine ja st2 ?_
 refine jE X2 hx Bd hPf (by decide) (by decide) rfl rfl rfl (dd 23 rfl) ?_
 exact ⟨b1, rfl, N2, K2, sz_b1, (A1.keep K2q), p2_0, p2_1⟩
abbrev jbY (m : MethodId) (pc : Nat) (a0 a1 : Slot) (S : List Value) : JFrame := mkF m pc #[a0, a1] S
def jhq (Z : State) (pa : Addr) (mo ea : Addr) (ke : ClassId) (x0a x1a : Addr) (h0 : Heap) (n0 : Nat) (v : Option Value) (h : Heap) (L : List Loc) : Prop := ∃ wl : Addr, v = some (.ref wl) ∧ Fr n0 L ∧ Keep h0 h [] ∧ h0.size ≤ wl ∧ Exa Z h wl S11' ∧ Fld Z h wl S11' "e0" S9' (.ref x0a) ∧ Fld Z h wl S11' "e1" S9' (.ref x1a)
theorem jfn (l : Launch) (Z : State) (a0 : Array Value) (hw : oH a0 Z) (ws : List Jvm.Cond) (pa : Addr) (mo ea : Addr) (ke : ClassId) (x0a x1a : Addr) (h0 : Heap) (n0 : Nat) (Z0 : n0 ≤ h0.size) (hmo : Mir Z S4' mo) (Ea0 : Exa Z h0 pa S3') (Fe0 : Fld Z h0 pa S3' S15' S4' (.ref ea)) (Fs0 : Fld Z h0 pa S3' S8' "I" (.int 2)) (Eo0 : Exa Z h0 ea S4') (Vo0 : Arv Z h0 ea ke (.object S0') (10 : Int32) [(.ref x0a), (.ref x1a), .null, .null, .null, .null, .null, .null, .null, .null] .null) (Ex0 : Exa Z h0 x0a S2') (Ex1 : Exa Z h0 x1a S2') :
  ji l Z M10' jdk_56_method_3_code 2 (some (.object S24')) ws ({ frames := 6, cells := 2, slots := 4, locals := 104 } : Room) #[(.ref pa)] h0 (jhq Z pa mo ea ke x0a x1a h0 n0) := by
 refine jb (plainFor_of_name jL) (fun m => jaX m pa) ?_
 intro p e s m below meth c s₁ Bd hx hby hml hown hZ X0 e0 Pf hPf
 have N0 := Fr.nil n0
 have dd := oD56_3j.hb hby
 have ow3 := ow hw 3 rfl
 have ow167 := ow hw 167 rfl
 have ow173 := ow hw 173 rfl
 have ow174 := ow hw 174 rfl
 have ow175 := ow hw 175 rfl
 have ow176 := ow hw 176 rfl
 have ow177 := ow hw 177 rfl
 have ow178 := ow hw 178 rfl
 have ow179 := ow hw 179 rfl
 have ow180 := ow hw 180 rfl
 have ow181 := ow hw 181 rfl
 have ow182 := ow hw 182 rfl
 have ow183 := ow hw 183 rfl
 have ow184 := ow hw 184 rfl
 have ow185 := ow hw 185 rfl
 have ow186 := ow hw 186 rfl
 have ow187 := ow hw 187 rfl
 have ow188 := ow hw 188 rfl
 have ow189 := ow hw 189 rfl
 have ow190 := ow hw 190 rfl
 have ow191 := ow hw 191 rfl
 have ow192 := ow hw 192 rfl
 have ow193 := ow hw 193 rfl
 have ow194 := ow hw 194 rfl
 have ow195 := ow hw 195 rfl
 have ow218 := ow hw 218 rfl
 have ow219 := ow hw 219 rfl
 have ow220 := ow hw 220 rfl
 have ow222 := ow hw 222 rfl
 have ow600 := ow hw 600 rfl
 refine ja (A := oW p e below s₁ (jbY m 1 (oR pa) ou [(.ref pa)])) (fun t k => by
  refine XS.aloadN X0.here hx rfl (dd 0 rfl) rfl rfl ?_
  exact k) ?_
 obtain ⟨T1, X1, e1, st1⟩ := instNo X0 hx hZ hown ow173 e0 Ea0 (jcs ow174 ow222 (NS.step ow174 (NS.step ow175 (NS.step ow176 (jbw ow177 ow222 (by decide)) (by decide)) (by decide)) (by decide)) (by decide)) (g := (jbY m 1 (oR pa) ou [(.ref pa)])) rfl rfl (dd 1 rfl)
 refine ja st1 ?_
 refine ja (A := oW p e below T1 (jbY m 8 (oR pa) ou [(.ref pa)])) (fun t k => by
  refine XS.ifNo X1.here hx rfl (dd 2 rfl) rfl ((if0 _ _).trans (teq (by decide : (0 : Int32) = (0 : Int32))).2) ?_
  refine XS.aloadN X1.here hx rfl (dd 3 rfl) rfl rfl ?_
  exact k) ?_
 obtain ⟨T2, X2, e2, st2⟩ := instNo X1 hx hZ hown ow178 e1 Ea0 (jcs ow174 ow600 (NS.step ow174 (NS.step ow175 (NS.step ow176 (jbw ow177 ow600 (by decide)) (by decide)) (by decide)) (by decide)) (by decide)) (g := (jbY m 8 (oR pa) ou [(.ref pa)])) rfl rfl (dd 4 rfl)
 refine ja st2 ?_
 refine ja (A := oW p e below T2 (jbY m 32 (oR pa) ou [(.ref pa)])) (fun t k => by
  refine XS.ifYes X2.here hx rfl (pc0 := 11) (pc' := 31) rfl (dd 5 rfl) rfl ((if0 _ _).trans (teq (by decide : (0 : Int32) = (0 : Int32))).1) (by decide) (by decide) ?_
  refine XS.aloadN X2.here hx rfl (dd 15 rfl) rfl rfl ?_
  exact k) ?_
 obtain ⟨_, T3, L3, X3, hQ3, st3⟩ := jaI X2 hx hZ hown ow179 ow180 ow182 ow183 (mvT hZ ow181) ow184 ow185 ow186 ow187 ow3 (jcW l Z a0 hw [] pa (2 : Int32) h0 n0 Z0 Fs0 (by decide)) e2 Ea0 (by decide) (g := (jbY m 32 (oR pa) ou [(.ref pa)])) rfl (by rw [hml]; rfl) (rest := []) rfl (lenOf jaJ rfl) rfl (W := 0) (Nat.le_of_eq rfl) (dd 16 rfl) (by decide)
 obtain ⟨rfl, N3q, eh3⟩ := hQ3
 have N3 := Fr.app N0 N3q
 refine ja st3 ?_
 refine ja (A := oW p e below T3 (jbY m 45 (oR pa) ou [(.ref pa)])) (fun t k => by
  refine XS.ifYes X3.here hx rfl (pc0 := 37) (pc' := 44) rfl (dd 17 rfl) rfl ((if0 _ _).trans (teq (by decide : (0 : Int32) = (0 : Int32))).1) (by decide) (by decide) ?_
  refine XS.aloadN X3.here hx rfl (dd 20 rfl) rfl rfl ?_
  exact k) ?_
 obtain ⟨_, T4, L4, X4, hQ4, st4⟩ := jaI X3 hx hZ hown ow188 ow189 ow191 ow192 (mvT hZ ow190) ow193 ow194 ow186 ow195 ow3 (jfc l Z a0 hw [] pa mo ea ke x0a x1a h0 n0 Z0 hmo Ea0 Fe0 Fs0 Eo0 Vo0 Ex0 Ex1) eh3 Ea0 (by decide) (g := (jbY m 45 (oR pa) ou [(.ref pa)])) rfl (by rw [hml]; rfl) (rest := []) rfl (lenOf jR rfl) rfl (W := 0) (Nat.le_of_eq rfl) (dd 21 rfl) (by decide)
 obtain ⟨na, kn, rfl, N4q, K4q, s_na, p4_0, p4_1, p4_2⟩ := hQ4
 have N4 := Fr.app N3 N4q
 have g_na : n0 ≤ na := Nat.le_trans Z0 s_na
 have sz_na : h0.size ≤ na := Nat.le_trans (Keep.refl h0 []).1 s_na
 have ne_pa_na : pa ≠ na := Nat.ne_of_lt (Nat.lt_of_lt_of_le Ea0.lt s_na)
 have ne_ea_na : ea ≠ na := Nat.ne_of_lt (Nat.lt_of_lt_of_le Eo0.lt s_na)
 have ne_x0a_na : x0a ≠ na := Nat.ne_of_lt (Nat.lt_of_lt_of_le Ex0.lt s_na)
 have ne_x1a_na : x1a ≠ na := Nat.ne_of_lt (Nat.lt_of_lt_of_le Ex1.lt s_na)
 have f4_1 := Fe0.keep K4q nin0
 have f4_2 := Fs0.keep K4q nin0
 have f4_4 := Vo0.keep K4q nin0
 have Z4 : n0 ≤ T4.heap.size := Nat.le_trans Z0 K4q.1
 have K4 : Keep h0 T4.heap [] := (Keep.refl h0 []).trans K4q all0
 refine ja st4 ?_
 obtain ⟨_, T5, L5, X5, hQ5, st5⟩ := jH X4 hx hZ hown ow218 ow219 ow220 ow167 (jfm l Z a0 hw [] na kn x0a x1a T4.heap n0 Z4 p4_0 p4_2 (Ex0.keep K4q) (Ex1.keep K4q)) rfl (by decide) (g := (jbY m 50 (oR pa) ou [(.ref na)])) rfl (by rw [hml]; rfl) (rest := []) rfl (lenOf jt rfl) rfl (W := 0) (Nat.le_of_eq rfl) (dd 22 rfl) (by decide)
 obtain ⟨wl, rfl, N5q, K5q, s_wl, p5_0, p5_1, p5_2⟩ := hQ5
 have N5 := Fr.app N4 N5q
 have g_wl : n0 ≤ wl := Nat.le_trans Z4 s_wl
 have sz_wl : h0.size ≤ wl := Nat.le_trans K4.1 s_wl
 have ne_pa_wl : pa ≠ wl := Nat.ne_of_lt (Nat.lt_of_lt_of_le (Ea0.keep K4q).lt s_wl)
 have ne_ea_wl : ea ≠ wl := Nat.ne_of_lt (Nat.lt_of_lt_of_le (Eo0.keep K4q).lt s_wl)
 have ne_x0a_wl : x0a ≠ wl := Nat.ne_of_lt (Nat.lt_of_lt_of_le (Ex0.keep K4q).lt s_wl)
 have ne_x1a_wl : x1a ≠ wl := Nat.ne_of_lt (Nat.lt_of_lt_of_le (Ex1.keep K4q).lt s_wl)
 have ne_na_wl : na ≠ wl := Nat.ne_of_lt (Nat.lt_of_lt_of_le p4_0.lt s_wl)
 have f5_1 := f4_1.keep K5q nin0
 have f5_2 := f4_2.keep K5q nin0
 have f5_4 := f4_4.keep K5q nin0
 have f5_8 := p4_2.keep K5q nin0
 have Z5 : n0 ≤ T5.heap.size := Nat.le_trans Z4 K5q.1
 have K5 : Keep h0 T5.heap [] := K4.trans K5q all0
 refine ja st5 ?_
 refine jE X5 hx Bd hPf (by decide) (by decide) rfl rfl rfl (dd 23 rfl) ?_
 exact ⟨wl, rfl, N5, K5, sz_wl, p5_0, p5_1, p5_2⟩
abbrev jiZ (m : MethodId) (pc : Nat) (a0 : Slot) (S : List Value) : JFrame := mkF m pc #[a0] S
def jhr (Z : State) (pa : Addr) (mo ea : Addr) (ke : ClassId) (x0a x1a : Addr) (h0 : Heap) (n0 : Nat) (v : Option Value) (h : Heap) (L : List Loc) : Prop := ∃ wl : Addr, v = some (.ref wl) ∧ Fr n0 L ∧ Keep h0 h [] ∧ h0.size ≤ wl ∧ Exa Z h wl S11' ∧ Fld Z h wl S11' "e0" S9' (.ref x0a) ∧ Fld Z h wl S11' "e1" S9' (.ref x1a)
theorem jfo (l : Launch) (Z : State) (a0 : Array Value) (hw : oH a0 Z) (ws : List Jvm.Cond) (pa : Addr) (mo ea : Addr) (ke : ClassId) (x0a x1a : Addr) (h0 : Heap) (n0 : Nat) (Z0 : n0 ≤ h0.size) (hmo : Mir Z S4' mo) (Ea0 : Exa Z h0 pa S3') (Fe0 : Fld Z h0 pa S3' S15' S4' (.ref ea)) (Fs0 : Fld Z h0 pa S3' S8' "I" (.int 2)) (Eo0 : Exa Z h0 ea S4') (Vo0 : Arv Z h0 ea ke (.object S0') (10 : Int32) [(.ref x0a), (.ref x1a), .null, .null, .null, .null, .null, .null, .null, .null] .null) (Ex0 : Exa Z h0 x0a S2') (Ex1 : Exa Z h0 x1a S2') :
  ji l Z M11' jdk_40_method_48_code 1 (some (.object S24')) ws ({ frames := 8, cells := 3, slots := 8, locals := 117 } : Room) #[(.ref pa)] h0 (jhr Z pa mo ea ke x0a x1a h0 n0) := by
 refine jb (plainFor_of_name jX) (fun m => jr m pa) ?_
 intro p e s m below meth c s₁ Bd hx hby hml hown hZ X0 e0 Pf hPf
 have N0 := Fr.nil n0
 have dd := oD40_48j.hb hby
 have ow169 := ow hw 169 rfl
 have ow170 := ow hw 170 rfl
 have ow171 := ow hw 171 rfl
 have ow172 := ow hw 172 rfl
 refine ja (A := oW p e below s₁ (jiZ m 1 (oR pa) [(.ref pa)])) (fun t k => by
  refine XS.aloadN X0.here hx rfl (dd 0 rfl) rfl rfl ?_
  exact k) ?_
 obtain ⟨_, T1, L1, X1, hQ1, st1⟩ := jH X0 hx hZ hown ow169 ow170 ow172 ow171 (jfn l Z a0 hw [] pa mo ea ke x0a x1a h0 n0 Z0 hmo Ea0 Fe0 Fs0 Eo0 Vo0 Ex0 Ex1) e0 (by decide) (g := (jiZ m 1 (oR pa) [(.ref pa)])) rfl (by rw [hml]; rfl) (rest := []) rfl (lenOf jq rfl) rfl (W := 0) (Nat.le_of_eq rfl) (dd 1 rfl) (by decide)
 obtain ⟨wl, rfl, N1q, K1q, s_wl, p1_0, p1_1, p1_2⟩ := hQ1
 have N1 := Fr.app N0 N1q
 have g_wl : n0 ≤ wl := Nat.le_trans Z0 s_wl
 have sz_wl : h0.size ≤ wl := Nat.le_trans (Keep.refl h0 []).1 s_wl
 have ne_pa_wl : pa ≠ wl := Nat.ne_of_lt (Nat.lt_of_lt_of_le Ea0.lt s_wl)
 have ne_ea_wl : ea ≠ wl := Nat.ne_of_lt (Nat.lt_of_lt_of_le Eo0.lt s_wl)
 have ne_x0a_wl : x0a ≠ wl := Nat.ne_of_lt (Nat.lt_of_lt_of_le Ex0.lt s_wl)
 have ne_x1a_wl : x1a ≠ wl := Nat.ne_of_lt (Nat.lt_of_lt_of_le Ex1.lt s_wl)
 have f1_1 := Fe0.keep K1q nin0
 have f1_2 := Fs0.keep K1q nin0
 have f1_4 := Vo0.keep K1q nin0
 have Z1 : n0 ≤ T1.heap.size := Nat.le_trans Z0 K1q.1
 have K1 : Keep h0 T1.heap [] := (Keep.refl h0 []).trans K1q all0
 refine ja st1 ?_
 refine jE X1 hx Bd hPf (by decide) (by decide) rfl rfl rfl (dd 2 rfl) ?_
 exact ⟨wl, rfl, N1, K1, sz_wl, p1_0, p1_1, p1_2⟩
abbrev jdX (m : MethodId) (pc : Nat) (a0 a1 : Slot) (S : List Value) : JFrame := mkF m pc #[a0, a1] S
def jhs (Z : State) (na : Addr) (kn : ClassId) (x0a x1a x2a : Addr) (h0 : Heap) (n0 : Nat) (v : Option Value) (h : Heap) (L : List Loc) : Prop := ∃ (wl el : Addr) (kl : ClassId), v = some (.ref wl) ∧ Fr n0 L ∧ Keep h0 h [] ∧ h0.size ≤ wl ∧ Exa Z h wl S17' ∧ Fld Z h wl S17' S30' S4' (.ref el) ∧ Exa Z h el S4' ∧ Arv Z h el kl (.object S0') (3 : Int32) [(.ref x0a), (.ref x1a), (.ref x2a)] .null
theorem jfp (l : Launch) (Z : State) (a0 : Array Value) (hw : oH a0 Z) (ws : List Jvm.Cond) (na : Addr) (kn : ClassId) (x0a x1a x2a : Addr) (h0 : Heap) (n0 : Nat) (Z0 : n0 ≤ h0.size) (En0 : Exa Z h0 na S4') (Vn0 : Arv Z h0 na kn (.object S0') (3 : Int32) [(.ref x0a), (.ref x1a), (.ref x2a)] .null) (Ex0 : Exa Z h0 x0a S2') (Ex1 : Exa Z h0 x1a S2') (Ex2 : Exa Z h0 x2a S2') :
  ji l Z M9' jdk_40_method_47_code 2 (some (.object S24')) ws ({ frames := 6, cells := 2, slots := 5, locals := 77 } : Room) #[(.ref na)] h0 (jhs Z na kn x0a x1a x2a h0 n0) := by
 refine jb (plainFor_of_name jX) (fun m => jaX m na) ?_
 intro p e s m below meth c s₁ Bd hx hby hml hown hZ X0 e0 Pf hPf
 have N0 := Fr.nil n0
 have dd := oD40_47j.hb hby
 have ow171 := ow hw 171 rfl
 have ow595 := ow hw 595 rfl
 have ow596 := ow hw 596 rfl
 have ow597 := ow hw 597 rfl
 refine ja (A := oW p e below s₁ (jdX m 60 (oR na) ou [(.ref na)])) (fun t k => by
  refine XS.aloadN X0.here hx rfl (dd 0 rfl) rfl rfl ?_
  refine jM X0 hx hZ e0 Vn0 (g := (jdX m 1 (oR na) ou [(.ref na)])) rfl rfl (dd 1 rfl) _ ?_
  refine X0.tableswitchOut hx (g := (jdX m 2 (oR na) ou [(.int 3)])) rfl (k := (3 : Int32)) (rest := []) rfl (dd 2 rfl) (by decide) (by show (0 : Int) ≤ ((2 : Nat) : Int) + _; decide) _ ?_
  refine XS.aloadN X0.here hx rfl (dd 24 rfl) rfl rfl ?_
  exact k) ?_
 obtain ⟨_, T1, L1, X1, hQ1, st1⟩ := jH X0 hx hZ hown ow595 ow596 ow597 ow171 (jhl l Z a0 hw [] na kn x0a x1a x2a h0 n0 Z0 En0 Vn0 Ex0 Ex1 Ex2) e0 (by decide) (g := (jdX m 60 (oR na) ou [(.ref na)])) rfl (by rw [hml]; rfl) (rest := []) rfl (lenOf jt rfl) rfl (W := 0) (Nat.le_of_eq rfl) (dd 25 rfl) (by decide)
 obtain ⟨wl, el, kl, rfl, N1q, K1q, s_wl, p1_0, p1_1, p1_2, p1_3⟩ := hQ1
 have N1 := Fr.app N0 N1q
 have g_wl : n0 ≤ wl := Nat.le_trans Z0 s_wl
 have sz_wl : h0.size ≤ wl := Nat.le_trans (Keep.refl h0 []).1 s_wl
 have ne_na_wl : na ≠ wl := Nat.ne_of_lt (Nat.lt_of_lt_of_le En0.lt s_wl)
 have ne_x0a_wl : x0a ≠ wl := Nat.ne_of_lt (Nat.lt_of_lt_of_le Ex0.lt s_wl)
 have ne_x1a_wl : x1a ≠ wl := Nat.ne_of_lt (Nat.lt_of_lt_of_le Ex1.lt s_wl)
 have ne_x2a_wl : x2a ≠ wl := Nat.ne_of_lt (Nat.lt_of_lt_of_le Ex2.lt s_wl)
 have f1_1 := Vn0.keep K1q nin0
 have Z1 : n0 ≤ T1.heap.size := Nat.le_trans Z0 K1q.1
 have K1 : Keep h0 T1.heap [] := (Keep.refl h0 []).trans K1q all0
 refine ja st1 ?_
 refine jE X1 hx Bd hPf (by decide) (by decide) rfl rfl rfl (dd 26 rfl) ?_
 exact ⟨wl, el, kl, rfl, N1, K1, sz_wl, p1_0, p1_1, p1_2, p1_3⟩
abbrev jbZ (m : MethodId) (pc : Nat) (a0 a1 : Slot) (S : List Value) : JFrame := mkF m pc #[a0, a1] S
def jht (Z : State) (pa : Addr) (mo ea : Addr) (ke : ClassId) (x0a x1a x2a : Addr) (h0 : Heap) (n0 : Nat) (v : Option Value) (h : Heap) (L : List Loc) : Prop := ∃ (wl el : Addr) (kl : ClassId), v = some (.ref wl) ∧ Fr n0 L ∧ Keep h0 h [] ∧ h0.size ≤ wl ∧ Exa Z h wl S17' ∧ Fld Z h wl S17' S30' S4' (.ref el) ∧ Exa Z h el S4' ∧ Arv Z h el kl (.object S0') (3 : Int32) [(.ref x0a), (.ref x1a), (.ref x2a)] .null
theorem jfq (l : Launch) (Z : State) (a0 : Array Value) (hw : oH a0 Z) (ws : List Jvm.Cond) (pa : Addr) (mo ea : Addr) (ke : ClassId) (x0a x1a x2a : Addr) (h0 : Heap) (n0 : Nat) (Z0 : n0 ≤ h0.size) (hmo : Mir Z S4' mo) (Ea0 : Exa Z h0 pa S3') (Fe0 : Fld Z h0 pa S3' S15' S4' (.ref ea)) (Fs0 : Fld Z h0 pa S3' S8' "I" (.int 3)) (Eo0 : Exa Z h0 ea S4') (Vo0 : Arv Z h0 ea ke (.object S0') (10 : Int32) [(.ref x0a), (.ref x1a), (.ref x2a), .null, .null, .null, .null, .null, .null, .null] .null) (Ex0 : Exa Z h0 x0a S2') (Ex1 : Exa Z h0 x1a S2') (Ex2 : Exa Z h0 x2a S2') :
  ji l Z M10' jdk_56_method_3_code 2 (some (.object S24')) ws ({ frames := 7, cells := 3, slots := 8, locals := 104 } : Room) #[(.ref pa)] h0 (jht Z pa mo ea ke x0a x1a x2a h0 n0) := by
 refine jb (plainFor_of_name jL) (fun m => jaX m pa) ?_
 intro p e s m below meth c s₁ Bd hx hby hml hown hZ X0 e0 Pf hPf
 have N0 := Fr.nil n0
 have dd := oD56_3j.hb hby
 have ow3 := ow hw 3 rfl
 have ow167 := ow hw 167 rfl
 have ow173 := ow hw 173 rfl
 have ow174 := ow hw 174 rfl
 have ow175 := ow hw 175 rfl
 have ow176 := ow hw 176 rfl
 have ow177 := ow hw 177 rfl
 have ow178 := ow hw 178 rfl
 have ow179 := ow hw 179 rfl
 have ow180 := ow hw 180 rfl
 have ow181 := ow hw 181 rfl
 have ow182 := ow hw 182 rfl
 have ow183 := ow hw 183 rfl
 have ow184 := ow hw 184 rfl
 have ow185 := ow hw 185 rfl
 have ow186 := ow hw 186 rfl
 have ow187 := ow hw 187 rfl
 have ow188 := ow hw 188 rfl
 have ow189 := ow hw 189 rfl
 have ow190 := ow hw 190 rfl
 have ow191 := ow hw 191 rfl
 have ow192 := ow hw 192 rfl
 have ow193 := ow hw 193 rfl
 have ow194 := ow hw 194 rfl
 have ow195 := ow hw 195 rfl
 have ow218 := ow hw 218 rfl
 have ow219 := ow hw 219 rfl
 have ow220 := ow hw 220 rfl
 have ow222 := ow hw 222 rfl
 have ow600 := ow hw 600 rfl
 refine ja (A := oW p e below s₁ (jbZ m 1 (oR pa) ou [(.ref pa)])) (fun t k => by
  refine XS.aloadN X0.here hx rfl (dd 0 rfl) rfl rfl ?_
  exact k) ?_
 obtain ⟨T1, X1, e1, st1⟩ := instNo X0 hx hZ hown ow173 e0 Ea0 (jcs ow174 ow222 (NS.step ow174 (NS.step ow175 (NS.step ow176 (jbw ow177 ow222 (by decide)) (by decide)) (by decide)) (by decide)) (by decide)) (g := (jbZ m 1 (oR pa) ou [(.ref pa)])) rfl rfl (dd 1 rfl)
 refine ja st1 ?_
 refine ja (A := oW p e below T1 (jbZ m 8 (oR pa) ou [(.ref pa)])) (fun t k => by
  refine XS.ifNo X1.here hx rfl (dd 2 rfl) rfl ((if0 _ _).trans (teq (by decide : (0 : Int32) = (0 : Int32))).2) ?_
  refine XS.aloadN X1.here hx rfl (dd 3 rfl) rfl rfl ?_
  exact k) ?_
 obtain ⟨T2, X2, e2, st2⟩ := instNo X1 hx hZ hown ow178 e1 Ea0 (jcs ow174 ow600 (NS.step ow174 (NS.step ow175 (NS.step ow176 (jbw ow177 ow600 (by decide)) (by decide)) (by decide)) (by decide)) (by decide)) (g := (jbZ m 8 (oR pa) ou [(.ref pa)])) rfl rfl (dd 4 rfl)
 refine ja st2 ?_
 refine ja (A := oW p e below T2 (jbZ m 32 (oR pa) ou [(.ref pa)])) (fun t k => by
  refine XS.ifYes X2.here hx rfl (pc0 := 11) (pc' := 31) rfl (dd 5 rfl) rfl ((if0 _ _).trans (teq (by decide : (0 : Int32) = (0 : Int32))).1) (by decide) (by decide) ?_
  refine XS.aloadN X2.here hx rfl (dd 15 rfl) rfl rfl ?_
  exact k) ?_
 obtain ⟨_, T3, L3, X3, hQ3, st3⟩ := jaI X2 hx hZ hown ow179 ow180 ow182 ow183 (mvT hZ ow181) ow184 ow185 ow186 ow187 ow3 (jcW l Z a0 hw [] pa (3 : Int32) h0 n0 Z0 Fs0 (by decide)) e2 Ea0 (by decide) (g := (jbZ m 32 (oR pa) ou [(.ref pa)])) rfl (by rw [hml]; rfl) (rest := []) rfl (lenOf jaJ rfl) rfl (W := 0) (Nat.le_of_eq rfl) (dd 16 rfl) (by decide)
 obtain ⟨rfl, N3q, eh3⟩ := hQ3
 have N3 := Fr.app N0 N3q
 refine ja st3 ?_
 refine ja (A := oW p e below T3 (jbZ m 45 (oR pa) ou [(.ref pa)])) (fun t k => by
  refine XS.ifYes X3.here hx rfl (pc0 := 37) (pc' := 44) rfl (dd 17 rfl) rfl ((if0 _ _).trans (teq (by decide : (0 : Int32) = (0 : Int32))).1) (by decide) (by decide) ?_
  refine XS.aloadN X3.here hx rfl (dd 20 rfl) rfl rfl ?_
  exact k) ?_
 obtain ⟨_, T4, L4, X4, hQ4, st4⟩ := jaI X3 hx hZ hown ow188 ow189 ow191 ow192 (mvT hZ ow190) ow193 ow194 ow186 ow195 ow3 (jfg l Z a0 hw [] pa mo ea ke x0a x1a x2a h0 n0 Z0 hmo Ea0 Fe0 Fs0 Eo0 Vo0 Ex0 Ex1 Ex2) eh3 Ea0 (by decide) (g := (jbZ m 45 (oR pa) ou [(.ref pa)])) rfl (by rw [hml]; rfl) (rest := []) rfl (lenOf jR rfl) rfl (W := 0) (Nat.le_of_eq rfl) (dd 21 rfl) (by decide)
 obtain ⟨na, kn, rfl, N4q, K4q, s_na, p4_0, p4_1, p4_2⟩ := hQ4
 have N4 := Fr.app N3 N4q
 have g_na : n0 ≤ na := Nat.le_trans Z0 s_na
 have sz_na : h0.size ≤ na := Nat.le_trans (Keep.refl h0 []).1 s_na
 have ne_pa_na : pa ≠ na := Nat.ne_of_lt (Nat.lt_of_lt_of_le Ea0.lt s_na)
 have ne_ea_na : ea ≠ na := Nat.ne_of_lt (Nat.lt_of_lt_of_le Eo0.lt s_na)
 have ne_x0a_na : x0a ≠ na := Nat.ne_of_lt (Nat.lt_of_lt_of_le Ex0.lt s_na)
 have ne_x1a_na : x1a ≠ na := Nat.ne_of_lt (Nat.lt_of_lt_of_le Ex1.lt s_na)
 have ne_x2a_na : x2a ≠ na := Nat.ne_of_lt (Nat.lt_of_lt_of_le Ex2.lt s_na)
 have f4_1 := Fe0.keep K4q nin0
 have f4_2 := Fs0.keep K4q nin0
 have f4_4 := Vo0.keep K4q nin0
 have Z4 : n0 ≤ T4.heap.size := Nat.le_trans Z0 K4q.1
 have K4 : Keep h0 T4.heap [] := (Keep.refl h0 []).trans K4q all0
 refine ja st4 ?_
 obtain ⟨_, T5, L5, X5, hQ5, st5⟩ := jH X4 hx hZ hown ow218 ow219 ow220 ow167 (jfp l Z a0 hw [] na kn x0a x1a x2a T4.heap n0 Z4 p4_0 p4_2 (Ex0.keep K4q) (Ex1.keep K4q) (Ex2.keep K4q)) rfl (by decide) (g := (jbZ m 50 (oR pa) ou [(.ref na)])) rfl (by rw [hml]; rfl) (rest := []) rfl (lenOf jt rfl) rfl (W := 0) (Nat.le_of_eq rfl) (dd 22 rfl) (by decide)
 obtain ⟨wl, el, kl, rfl, N5q, K5q, s_wl, p5_0, p5_1, p5_2, p5_3⟩ := hQ5
 have N5 := Fr.app N4 N5q
 have g_wl : n0 ≤ wl := Nat.le_trans Z4 s_wl
 have sz_wl : h0.size ≤ wl := Nat.le_trans K4.1 s_wl
 have ne_pa_wl : pa ≠ wl := Nat.ne_of_lt (Nat.lt_of_lt_of_le (Ea0.keep K4q).lt s_wl)
 have ne_ea_wl : ea ≠ wl := Nat.ne_of_lt (Nat.lt_of_lt_of_le (Eo0.keep K4q).lt s_wl)
 have ne_x0a_wl : x0a ≠ wl := Nat.ne_of_lt (Nat.lt_of_lt_of_le (Ex0.keep K4q).lt s_wl)
 have ne_x1a_wl : x1a ≠ wl := Nat.ne_of_lt (Nat.lt_of_lt_of_le (Ex1.keep K4q).lt s_wl)
 have ne_x2a_wl : x2a ≠ wl := Nat.ne_of_lt (Nat.lt_of_lt_of_le (Ex2.keep K4q).lt s_wl)
 have ne_na_wl : na ≠ wl := Nat.ne_of_lt (Nat.lt_of_lt_of_le p4_0.lt s_wl)
 have f5_1 := f4_1.keep K5q nin0
 have f5_2 := f4_2.keep K5q nin0
 have f5_4 := f4_4.keep K5q nin0
 have f5_9 := p4_2.keep K5q nin0
 have Z5 : n0 ≤ T5.heap.size := Nat.le_trans Z4 K5q.1
 have K5 : Keep h0 T5.heap [] := K4.trans K5q all0
 refine ja st5 ?_
 refine jE X5 hx Bd hPf (by decide) (by decide) rfl rfl rfl (dd 23 rfl) ?_
 exact ⟨wl, el, kl, rfl, N5, K5, sz_wl, p5_0, p5_1, p5_2, p5_3⟩
abbrev jja (m : MethodId) (pc : Nat) (a0 : Slot) (S : List Value) : JFrame := mkF m pc #[a0] S
def jhu (Z : State) (pa : Addr) (mo ea : Addr) (ke : ClassId) (x0a x1a x2a : Addr) (h0 : Heap) (n0 : Nat) (v : Option Value) (h : Heap) (L : List Loc) : Prop := ∃ (wl el : Addr) (kl : ClassId), v = some (.ref wl) ∧ Fr n0 L ∧ Keep h0 h [] ∧ h0.size ≤ wl ∧ Exa Z h wl S17' ∧ Fld Z h wl S17' S30' S4' (.ref el) ∧ Exa Z h el S4' ∧ Arv Z h el kl (.object S0') (3 : Int32) [(.ref x0a), (.ref x1a), (.ref x2a)] .null
theorem jfr (l : Launch) (Z : State) (a0 : Array Value) (hw : oH a0 Z) (ws : List Jvm.Cond) (pa : Addr) (mo ea : Addr) (ke : ClassId) (x0a x1a x2a : Addr) (h0 : Heap) (n0 : Nat) (Z0 : n0 ≤ h0.size) (hmo : Mir Z S4' mo) (Ea0 : Exa Z h0 pa S3') (Fe0 : Fld Z h0 pa S3' S15' S4' (.ref ea)) (Fs0 : Fld Z h0 pa S3' S8' "I" (.int 3)) (Eo0 : Exa Z h0 ea S4') (Vo0 : Arv Z h0 ea ke (.object S0') (10 : Int32) [(.ref x0a), (.ref x1a), (.ref x2a), .null, .null, .null, .null, .null, .null, .null] .null) (Ex0 : Exa Z h0 x0a S2') (Ex1 : Exa Z h0 x1a S2') (Ex2 : Exa Z h0 x2a S2') :
  ji l Z M11' jdk_40_method_48_code 1 (some (.object S24')) ws ({ frames := 8, cells := 3, slots := 8, locals := 117 } : Room) #[(.ref pa)] h0 (jhu Z pa mo ea ke x0a x1a x2a h0 n0) := by
 refine jb (plainFor_of_name jX) (fun m => jr m pa) ?_
 intro p e s m below meth c s₁ Bd hx hby hml hown hZ X0 e0 Pf hPf
 have N0 := Fr.nil n0
 have dd := oD40_48j.hb hby
 have ow169 := ow hw 169 rfl
 have ow170 := ow hw 170 rfl
 have ow171 := ow hw 171 rfl
 have ow172 := ow hw 172 rfl
 refine ja (A := oW p e below s₁ (jja m 1 (oR pa) [(.ref pa)])) (fun t k => by
  refine XS.aloadN X0.here hx rfl (dd 0 rfl) rfl rfl ?_
  exact k) ?_
 obtain ⟨_, T1, L1, X1, hQ1, st1⟩ := jH X0 hx hZ hown ow169 ow170 ow172 ow171 (jfq l Z a0 hw [] pa mo ea ke x0a x1a x2a h0 n0 Z0 hmo Ea0 Fe0 Fs0 Eo0 Vo0 Ex0 Ex1 Ex2) e0 (by decide) (g := (jja m 1 (oR pa) [(.ref pa)])) rfl (by rw [hml]; rfl) (rest := []) rfl (lenOf jq rfl) rfl (W := 0) (Nat.le_of_eq rfl) (dd 1 rfl) (by decide)
 obtain ⟨wl, el, kl, rfl, N1q, K1q, s_wl, p1_0, p1_1, p1_2, p1_3⟩ := hQ1
 have N1 := Fr.app N0 N1q
 have g_wl : n0 ≤ wl := Nat.le_trans Z0 s_wl
 have sz_wl : h0.size ≤ wl := Nat.le_trans (Keep.refl h0 []).1 s_wl
 have ne_pa_wl : pa ≠ wl := Nat.ne_of_lt (Nat.lt_of_lt_of_le Ea0.lt s_wl)
 have ne_ea_wl : ea ≠ wl := Nat.ne_of_lt (Nat.lt_of_lt_of_le Eo0.lt s_wl)
 have ne_x0a_wl : x0a ≠ wl := Nat.ne_of_lt (Nat.lt_of_lt_of_le Ex0.lt s_wl)
 have ne_x1a_wl : x1a ≠ wl := Nat.ne_of_lt (Nat.lt_of_lt_of_le Ex1.lt s_wl)
 have ne_x2a_wl : x2a ≠ wl := Nat.ne_of_lt (Nat.lt_of_lt_of_le Ex2.lt s_wl)
 have f1_1 := Fe0.keep K1q nin0
 have f1_2 := Fs0.keep K1q nin0
 have f1_4 := Vo0.keep K1q nin0
 have Z1 : n0 ≤ T1.heap.size := Nat.le_trans Z0 K1q.1
 have K1 : Keep h0 T1.heap [] := (Keep.refl h0 []).trans K1q all0
 refine ja st1 ?_
 refine jE X1 hx Bd hPf (by decide) (by decide) rfl rfl rfl (dd 2 rfl) ?_
 exact ⟨wl, el, kl, rfl, N1, K1, sz_wl, p1_0, p1_1, p1_2, p1_3⟩
abbrev jcy (m : MethodId) (pc : Nat) (a0 a1 a2 : Slot) (S : List Value) : JFrame := mkF m pc #[a0, a1, a2] S
theorem oD53_1j : oDec jdk_53_method_1_code [(0, .aload_n 0, 1), (1, .invokespecial 1, 3), (4, .aload_n 0, 1), (5, .aload_n 1, 1), (6, .putfield 7, 3), (9, .aload_n 0, 1), (10, .iload_n 2, 1), (11, .putfield 13, 3), (14, .aload_n 0, 1), (15, .iconst 0, 1), (16, .putfield 17, 3), (19, .aload_n 0, 1), (20, .iconst 0, 1), (21, .putfield 20, 3), (24, .return_, 1)] := by decide +kernel
theorem jkf {a0 : Array Value} {Z : State} (hw : oH a0 Z) : jc Z S6' S8' "I" ≠ jc Z S6' "list" S14' := jg (C := S6') (Or.inr (ow hw 278 rfl)) (Or.inr (ow hw 276 rfl)) (by decide) rfl rfl
theorem jkg {a0 : Array Value} {Z : State} (hw : oH a0 Z) : jc Z S6' S20' "I" ≠ jc Z S6' "list" S14' := jg (C := S6') (Or.inl (ow hw 280 rfl)) (Or.inr (ow hw 276 rfl)) (by decide) rfl rfl
theorem jkh {a0 : Array Value} {Z : State} (hw : oH a0 Z) : jc Z S6' S28' "Z" ≠ jc Z S6' "list" S14' := jg (C := S6') (Or.inr (ow hw 282 rfl)) (Or.inr (ow hw 276 rfl)) (by decide) rfl rfl
theorem jki {a0 : Array Value} {Z : State} (hw : oH a0 Z) : jc Z S6' "list" S14' ≠ jc Z S6' S8' "I" := jg (C := S6') (Or.inr (ow hw 276 rfl)) (Or.inr (ow hw 278 rfl)) (by decide) rfl rfl
theorem jkj {a0 : Array Value} {Z : State} (hw : oH a0 Z) : jc Z S6' S20' "I" ≠ jc Z S6' S8' "I" := jg (C := S6') (Or.inl (ow hw 280 rfl)) (Or.inr (ow hw 278 rfl)) (by decide) rfl rfl
theorem jkk {a0 : Array Value} {Z : State} (hw : oH a0 Z) : jc Z S6' S28' "Z" ≠ jc Z S6' S8' "I" := jg (C := S6') (Or.inr (ow hw 282 rfl)) (Or.inr (ow hw 278 rfl)) (by decide) rfl rfl
theorem jdY {a0 : Array Value} {Z : State} (hw : oH a0 Z) : jc Z S6' "list" S14' ≠ jc Z S6' S20' "I" := jg (C := S6') (Or.inr (ow hw 276 rfl)) (Or.inl (ow hw 280 rfl)) (by decide) rfl rfl
theorem jdZ {a0 : Array Value} {Z : State} (hw : oH a0 Z) : jc Z S6' S8' "I" ≠ jc Z S6' S20' "I" := jg (C := S6') (Or.inr (ow hw 278 rfl)) (Or.inl (ow hw 280 rfl)) (by decide) rfl rfl
theorem jea {a0 : Array Value} {Z : State} (hw : oH a0 Z) : jc Z S6' S28' "Z" ≠ jc Z S6' S20' "I" := jg (C := S6') (Or.inr (ow hw 282 rfl)) (Or.inl (ow hw 280 rfl)) (by decide) rfl rfl
theorem jkl {a0 : Array Value} {Z : State} (hw : oH a0 Z) : jc Z S6' "list" S14' ≠ jc Z S6' S28' "Z" := jg (C := S6') (Or.inr (ow hw 276 rfl)) (Or.inr (ow hw 282 rfl)) (by decide) rfl rfl
theorem jkm {a0 : Array Value} {Z : State} (hw : oH a0 Z) : jc Z S6' S8' "I" ≠ jc Z S6' S28' "Z" := jg (C := S6') (Or.inr (ow hw 278 rfl)) (Or.inr (ow hw 282 rfl)) (by decide) rfl rfl
theorem jkn {a0 : Array Value} {Z : State} (hw : oH a0 Z) : jc Z S6' S20' "I" ≠ jc Z S6' S28' "Z" := jg (C := S6') (Or.inl (ow hw 280 rfl)) (Or.inr (ow hw 282 rfl)) (by decide) rfl rfl
def jjb (Z : State) (it : Addr) (wl : Addr) (sz : Int32)  (h0 : Heap) (n0 : Nat) (v : Option Value) (h : Heap) (L : List Loc) : Prop := v = none ∧ Fr n0 L ∧ Keep h0 h [it] ∧ Fld Z h it S6' "list" S14' (.ref wl) ∧ Fld Z h it S6' S8' "I" (.int sz) ∧ Fld Z h it S6' S20' "I" (.int 0) ∧ Fld Z h it S6' S28' "Z" (.int 0)
theorem js : plainName "java/util/ImmutableCollections$ListItr" = true := by first | (simp [plainName, overriddenIn]; done) | decide +kernel
theorem jdL (l : Launch) (Z : State) (a0 : Array Value) (hw : oH a0 Z) (ws : List Jvm.Cond) (it : Addr) (wl : Addr) (sz : Int32)  (h0 : Heap) (n0 : Nat) (Z0 : n0 ≤ h0.size) (Ei0 : Exa Z h0 it S6') (g_it : n0 ≤ it) (Fi0 : Fld Z h0 it S6' "list" S14' .null) (Fi1 : Fld Z h0 it S6' S8' "I" (.int 0)) (Fi2 : Fld Z h0 it S6' S20' "I" (.int 0)) (Fi3 : Fld Z h0 it S6' S28' "Z" (.int 0)) :
  ji l Z (⟨S6', S27', "(Ljava/util/List;I)V"⟩ : MethodName) jdk_53_method_1_code 3 none ws ({ frames := 1, cells := 0, slots := 0, locals := 12 } : Room) #[(.ref it), (.ref wl), (.int sz)] h0 (jjb Z it wl sz h0 n0) := by
 refine jb (plainFor_of_name js) (fun m => jci m it wl sz) ?_
 intro p e s m below meth c s₁ Bd hx hby hml hown hZ X0 e0 Pf hPf
 have N0 := Fr.nil n0
 have dd := oD53_1j.hb hby
 have hnm := (name_of_methodNamed Bd.named Bd.method).1
 have ow20 := ow hw 20 rfl
 have ow21 := ow hw 21 rfl
 have ow262 := ow hw 262 rfl
 have ow274 := ow hw 274 rfl
 have ow275 := ow hw 275 rfl
 have ow276 := ow hw 276 rfl
 have ow277 := ow hw 277 rfl
 have ow278 := ow hw 278 rfl
 have ow279 := ow hw 279 rfl
 have ow280 := ow hw 280 rfl
 have ow281 := ow hw 281 rfl
 have ow282 := ow hw 282 rfl
 refine ja (A := oW p e below s₁ (jcy m 1 (oR it) (oR wl) (oi sz) [(.ref it)])) (fun t k => by
  refine XS.aloadN X0.here hx rfl (dd 0 rfl) rfl rfl ?_
  exact k) ?_
 obtain ⟨T1, X1, e1, st1⟩ := initO X0 hx hZ hown ow274 ow20 ow21 e0 (g := (jcy m 1 (oR it) (oR wl) (oi sz) [(.ref it)])) rfl (by rw [hml]; rfl) rfl (dd 1 rfl) (by decide) (W := 0) (by show 2 * 0 + _ ≤ _; exact Nat.le_of_eq rfl) (by decide)
 refine ja st1 ?_
 refine ja (A := oW p e below T1 (jcy m 6 (oR it) (oR wl) (oi sz) [(.ref wl), (.ref it)])) (fun t k => by
  refine XS.aloadN X1.here hx rfl (dd 2 rfl) rfl rfl ?_
  refine XS.aloadN X1.here hx rfl (dd 3 rfl) rfl rfl ?_
  exact k) ?_
 obtain ⟨T2, h2, X2, e2, W2, st2⟩ := putF X1 hx hZ hown (host := "") (Or.inl ow275) Via.refl e1 Fi0 Ei0 (Or.inr ⟨ow276, rfl, hnm⟩) ow262 (ty := (.object S24')) (by decide) rfl rfl (g := (jcy m 6 (oR it) (oR wl) (oi sz) [(.ref wl), (.ref it)])) rfl rfl (dd 4 rfl)
 refine ja st2 ?_
 have f2_1 : Fld Z h2 it S6' "list" S14' (.ref wl) := Fi0.same W2
 have f2_2 := Fi1.other W2 (Or.inr (jkf hw))
 have f2_3 := Fi2.other W2 (Or.inr (jkg hw))
 have f2_4 := Fi3.other W2 (Or.inr (jkh hw))
 have N2 := Fr.snoc X2 N0 g_it
 have Z2 : n0 ≤ h2.size := Nat.le_trans Z0 (Keep.of_wr W2).1
 have K2 : Keep h0 h2 [it] := (Keep.refl h0 [it]).wr W2 (Or.inl (List.mem_of_getElem? (i := 0) rfl))
 refine ja (A := oW p e below T2 (jcy m 11 (oR it) (oR wl) (oi sz) [(.int sz), (.ref it)])) (fun t k => by
  refine XS.aloadN X2.here hx rfl (dd 5 rfl) rfl rfl ?_
  refine XS.iloadN X2.here hx rfl (dd 6 rfl) rfl ?_
  exact k) ?_
 obtain ⟨T3, h3, X3, e3, W3, st3⟩ := putF X2 hx hZ hown (host := "") (Or.inl ow277) Via.refl e2 f2_2 (Ei0.wr W2) (Or.inr ⟨ow278, rfl, hnm⟩) ow262 (ty := .int) (by decide) rfl rfl (g := (jcy m 11 (oR it) (oR wl) (oi sz) [(.int sz), (.ref it)])) rfl rfl (dd 7 rfl)
 refine ja st3 ?_
 have f3_1 := f2_1.other W3 (Or.inr (jki hw))
 have f3_2 : Fld Z h3 it S6' S8' "I" (.int sz) := f2_2.same W3
 have f3_3 := f2_3.other W3 (Or.inr (jkj hw))
 have f3_4 := f2_4.other W3 (Or.inr (jkk hw))
 have N3 := Fr.snoc X3 N2 g_it
 have Z3 : n0 ≤ h3.size := Nat.le_trans Z2 (Keep.of_wr W3).1
 have K3 : Keep h0 h3 [it] := K2.wr W3 (Or.inl (List.mem_of_getElem? (i := 0) rfl))
 refine ja (A := oW p e below T3 (jcy m 16 (oR it) (oR wl) (oi sz) [(.int 0), (.ref it)])) (fun t k => by
  refine XS.aloadN X3.here hx rfl (dd 8 rfl) rfl rfl ?_
  refine XS.iconst X3.here hx rfl (dd 9 rfl) ?_
  exact k) ?_
 obtain ⟨T4, h4, X4, e4, W4, st4⟩ := putF X3 hx hZ hown (host := "") (Or.inl ow279) Via.refl e3 f3_3 ((Ei0.wr W2).wr W3) (Or.inl ow280) ow262 (ty := .int) (by decide) rfl rfl (g := (jcy m 16 (oR it) (oR wl) (oi sz) [(.int 0), (.ref it)])) rfl rfl (dd 10 rfl)
 refine ja st4 ?_
 have f4_1 := f3_1.other W4 (Or.inr (jdY hw))
 have f4_2 := f3_2.other W4 (Or.inr (jdZ hw))
 have f4_3 : Fld Z h4 it S6' S20' "I" (.int 0) := f3_3.same W4
 have f4_4 := f3_4.other W4 (Or.inr (jea hw))
 have N4 := Fr.snoc X4 N3 g_it
 have Z4 : n0 ≤ h4.size := Nat.le_trans Z3 (Keep.of_wr W4).1
 have K4 : Keep h0 h4 [it] := K3.wr W4 (Or.inl (List.mem_of_getElem? (i := 0) rfl))
 refine ja (A := oW p e below T4 (jcy m 21 (oR it) (oR wl) (oi sz) [(.int 0), (.ref it)])) (fun t k => by
  refine XS.aloadN X4.here hx rfl (dd 11 rfl) rfl rfl ?_
  refine XS.iconst X4.here hx rfl (dd 12 rfl) ?_
  exact k) ?_
 obtain ⟨T5, h5, X5, e5, W5, st5⟩ := putFN X4 hx hZ hown ow281 Via.refl e4 f4_4 (((Ei0.wr W2).wr W3).wr W4) (Or.inr ⟨ow282, rfl, hnm⟩) ow262 (ty := .boolean) (v' := .int (nar .boolean (0 : Int32))) (by decide) rfl (fits_nar_bool _) (g := (jcy m 21 (oR it) (oR wl) (oi sz) [(.int 0), (.ref it)])) rfl rfl (dd 13 rfl)
 refine ja st5 ?_
 have f5_1 := f4_1.other W5 (Or.inr (jkl hw))
 have f5_2 := f4_2.other W5 (Or.inr (jkm hw))
 have f5_3 := f4_3.other W5 (Or.inr (jkn hw))
 have f5_4 : Fld Z h5 it S6' S28' "Z" (.int 0) := f4_4.same W5
 have N5 := Fr.snoc X5 N4 g_it
 have Z5 : n0 ≤ h5.size := Nat.le_trans Z4 (Keep.of_wr W5).1
 have K5 : Keep h0 h5 [it] := K4.wr W5 (Or.inl (List.mem_of_getElem? (i := 0) rfl))
 refine jaa X5 hx Bd hPf (by decide) (by decide) (dd 14 rfl) ?_
 rw [e5]
 exact ⟨rfl, N5, K5, f5_1, f5_2, f5_3, f5_4⟩
abbrev jcp (m : MethodId) (pc : Nat) (a0 : Slot) (S : List Value) : JFrame := mkF m pc #[a0] S
theorem oD44_3j : oDec jdk_44_method_3_code [(0, .aload_n 0, 1), (1, .getfield 24, 3), (4, .getstatic 19, 3), (7, .if_acmp .eq 7, 3), (10, .iconst 2, 1), (11, .goto 4, 3), (14, .iconst 1, 1), (15, .ireturn, 1)] := by decide +kernel
def jhv (Z : State) (wl : Addr) (x0a y1a em : Addr) (sz : Int32) (h0 : Heap) (n0 : Nat) (v : Option Value) (h : Heap) (L : List Loc) : Prop := v = some (.int sz) ∧ Fr n0 L ∧ h = h0
theorem jdt (l : Launch) (Z : State) (a0 : Array Value) (hw : oH a0 Z) (ws : List Jvm.Cond) (wl : Addr) (x0a y1a em : Addr) (sz : Int32) (h0 : Heap) (n0 : Nat) (Z0 : n0 ≤ h0.size) (El0 : Exa Z h0 wl S11') (Fl0 : Fld Z h0 wl S11' "e0" S9' (.ref x0a)) (Fl1 : Fld Z h0 wl S11' "e1" S9' (.ref y1a)) (Se0 : Sta Z h0 S29' "EMPTY" S9' (.ref em)) (hs1 : y1a = em → sz = 1) (hs2 : y1a ≠ em → sz = 2) :
  ji l Z M12' jdk_44_method_3_code 1 (some .int) ws ({ frames := 0, cells := 0, slots := 0, locals := 0 } : Room) #[(.ref wl)] h0 (jhv Z wl x0a y1a em sz h0 n0) := by
 refine jb (plainFor_of_name jD) (fun m => jr m wl) ?_
 intro p e s m below meth c s₁ Bd hx hby hml hown hZ X0 e0 Pf hPf
 have N0 := Fr.nil n0
 have dd := oD44_3j.hb hby
 have ow247 := ow hw 247 rfl
 have ow248 := ow hw 248 rfl
 refine ja (A := oW p e below s₁ (jcp m 1 (oR wl) [(.ref wl)])) (fun t k => by
  refine XS.aloadN X0.here hx rfl (dd 0 rfl) rfl rfl ?_
  exact k) ?_
 obtain ⟨T1, X1, e1, st1⟩ := getF X0 hx hZ hown (host := "") (Or.inl ow248) Via.refl e0 Fl1 (g := (jcp m 1 (oR wl) [(.ref wl)])) rfl rfl (dd 1 rfl)
 refine ja st1 ?_
 obtain ⟨T2, X2, e2, st2⟩ := getS2 X1 hx hZ hown (Or.inr ow247) Via.refl e1 Se0 (g := (jcp m 4 (oR wl) [(.ref y1a)])) rfl (dd 2 rfl)
 refine ja st2 ?_
 by_cases hq7_3 : y1a = em
 ·
  refine ja (A := oW p e below T2 (jcp m 15 (oR wl) [(.int 1)])) (fun t k => by
   refine Jvm.RoadKit.acmp (g := (jcp m 7 (oR wl) [(.ref em), (.ref y1a)])) X2 hx rfl rfl rfl (pc0 := 7) (pc' := 14) (same := true) rfl (dd 3 rfl) rfl (decide_eq_true (congrArg Value.ref hq7_3)) (by decide) (by decide) ?_
   refine XS.iconst X2.here hx rfl (dd 6 rfl) ?_
   exact k) ?_
  refine jaD X2 hx Bd hPf (by decide) (by decide) (dd 7 rfl) ?_
  rw [e2]
  exact ⟨by rw [hs1 hq7_3], N0, rfl⟩
 ·
  refine ja (A := oW p e below T2 (jcp m 15 (oR wl) [(.int 2)])) (fun t k => by
   refine Jvm.RoadKit.acmp (g := (jcp m 7 (oR wl) [(.ref em), (.ref y1a)])) X2 hx rfl rfl rfl (pc0 := 7) (pc' := 10) (same := false) rfl (dd 3 rfl) rfl (decide_eq_false fun q => hq7_3 (Value.ref.inj q)) (by decide) (by decide) ?_
   refine XS.iconst X2.here hx rfl (dd 4 rfl) ?_
   show oW p e below T2 (jcp m 11 (oR wl) [(.int 2)]) _
   refine XS.goto X2.here hx rfl (pc0 := 11) (pc' := 15) rfl (dd 5 rfl) (by decide) (by decide) ?_
   exact k) ?_
  refine jaD X2 hx Bd hPf (by decide) (by decide) (dd 7 rfl) ?_
  rw [e2]
  exact ⟨by rw [hs2 hq7_3], N0, rfl⟩
abbrev jeb (m : MethodId) (pc : Nat) (a0 : Slot) (S : List Value) : JFrame := mkF m pc #[a0] S
theorem oD46_10j : oDec jdk_46_method_10_code [(0, .new 61, 3), (3, .dup, 1), (4, .aload_n 0, 1), (5, .aload_n 0, 1), (6, .invokevirtual 13, 3), (9, .invokespecial 63, 3), (12, .areturn, 1)] := by decide +kernel
theorem jau : parseMethodDescriptor "(Ljava/util/List;I)V" = some ⟨[(.object "java/util/List"), .int], none⟩ := by decide +kernel
def jhw (Z : State) (wl : Addr) (x0a y1a em : Addr) (sz : Int32) (h0 : Heap) (n0 : Nat) (v : Option Value) (h : Heap) (L : List Loc) : Prop := ∃ it : Addr, v = some (.ref it) ∧ Fr n0 L ∧ Keep h0 h [] ∧ h0.size ≤ it ∧ Exa Z h it S6' ∧ Fld Z h it S6' "list" S14' (.ref wl) ∧ Fld Z h it S6' S8' "I" (.int sz) ∧ Fld Z h it S6' S20' "I" (.int 0) ∧ Fld Z h it S6' S28' "Z" (.int 0)
theorem jfs (l : Launch) (Z : State) (a0 : Array Value) (hw : oH a0 Z) (ws : List Jvm.Cond) (wl : Addr) (x0a y1a em : Addr) (sz : Int32) (h0 : Heap) (n0 : Nat) (Z0 : n0 ≤ h0.size) (El0 : Exa Z h0 wl S11') (Fl0 : Fld Z h0 wl S11' "e0" S9' (.ref x0a)) (Fl1 : Fld Z h0 wl S11' "e1" S9' (.ref y1a)) (Se0 : Sta Z h0 S29' "EMPTY" S9' (.ref em)) (hs1 : y1a = em → sz = 1) (hs2 : y1a ≠ em → sz = 2) :
  ji l Z M13' jdk_46_method_10_code 1 (some (.object "java/util/Iterator")) ws ({ frames := 2, cells := 1, slots := 4, locals := 27 } : Room) #[(.ref wl)] h0 (jhw Z wl x0a y1a em sz h0 n0) := by
 refine jb (plainFor_of_name jx) (fun m => jr m wl) ?_
 intro p e s m below meth c s₁ Bd hx hby hml hown hZ X0 e0 Pf hPf
 have N0 := Fr.nil n0
 have dd := oD46_10j.hb hby
 have ow223 := ow hw 223 rfl
 have ow261 := ow hw 261 rfl
 have ow262 := ow hw 262 rfl
 have ow263 := ow hw 263 rfl
 have ow264 := ow hw 264 rfl
 have ow265 := ow hw 265 rfl
 have ow266 := ow hw 266 rfl
 have ow267 := ow hw 267 rfl
 have ow268 := ow hw 268 rfl
 have ow269 := ow hw 269 rfl
 have ow270 := ow hw 270 rfl
 have ow271 := ow hw 271 rfl
 have ow273 := ow hw 273 rfl
 have ow276 := ow hw 276 rfl
 have ow278 := ow hw 278 rfl
 have ow280 := ow hw 280 rfl
 have ow282 := ow hw 282 rfl
 obtain ⟨T1, h1, X1, e1, E1, A1, D1, -, st1⟩ := newO X0 hx hZ hown ow261 ow262 ow263 e0 (g := (jeb m 0 (oR wl) [])) rfl (dd 0 rfl) (by decide) (by decide)
 obtain ⟨b1, g1⟩ : ∃ z, z = h0.size := ⟨_, rfl⟩
 rw [← g1] at A1 D1 st1
 refine ja st1 ?_
 have g_b1 : n0 ≤ b1 := Nat.le_trans Z0 (Nat.le_of_eq g1.symm)
 have Z1 : n0 ≤ h1.size := Nat.le_trans Z0 E1.1
 have sz_b1 : h0.size ≤ b1 := Nat.le_trans (Keep.refl h0 []).1 (Nat.le_of_eq g1.symm)
 have K1 : Keep h0 h1 [] := (Keep.refl h0 []).ext E1
 have F1_list : Fld Z h1 b1 S6' "list" S14' .null := D1 (Or.inr ow276) (ty := (.object S24')) (by decide)
 have F1_size : Fld Z h1 b1 S6' S8' "I" (.int 0) := D1 (Or.inr ow278) (ty := .int) (by decide)
 have F1_cursor : Fld Z h1 b1 S6' S20' "I" (.int 0) := D1 (Or.inl ow280) (ty := .int) (by decide)
 have F1_isListIterator : Fld Z h1 b1 S6' S28' "Z" (.int 0) := D1 (Or.inr ow282) (ty := .boolean) (by decide)
 refine ja (A := oW p e below T1 (jeb m 6 (oR wl) [(.ref wl), (.ref wl), (.ref b1), (.ref b1)])) (fun t k => by
  refine XS.dup X1.here hx rfl (dd 1 rfl) rfl rfl ?_
  refine XS.aloadN X1.here hx rfl (dd 2 rfl) rfl rfl ?_
  refine XS.aloadN X1.here hx rfl (dd 3 rfl) rfl rfl ?_
  exact k) ?_
 obtain ⟨cq2, kq2, q2a, q2b, q2c⟩ := isOf hZ e1 (El0.ext E1)
 obtain ⟨_, _, ⟨T2, L2, k2, n2⟩, -, X2, ⟨Lc2, hQ2, l2, y2, z2⟩, st2⟩ := X1.virtualBackUp hx (owner := S60') (x := M14') (y := M12') hown (mvT hZ ow264) (mvT hZ ow265) (mvT hZ ow266) (by decide) (mvT hZ ow267) (mvT hZ ow268) (backOf (W := 3) (jdt l Z a0 hw [] wl x0a y1a em sz h1 n0 Z1 (El0.ext E1) (Fl0.ext E1) (Fl1.ext E1) (Se0.ext E1) hs1 hs2) hZ ow269 ow223 (by decide) (by decide)) q2a q2c (g := (jeb m 6 (oR wl) [(.ref wl), (.ref wl), (.ref b1), (.ref b1)])) rfl (by rw [hml]; rfl) (Steps.refl _) (argsL := []) (rest := [(.ref wl), (.ref b1), (.ref b1)]) (lenOf jag rfl) rfl (by show 2 * 0 + _ ≤ _; exact Nat.le_of_eq rfl) (dd 4 rfl) (fun _ _ => ⟨rfl, e1, (by decide : 1 + 0 ≤ _), (by decide : 4 + 0 ≤ _)⟩)
 dsimp only [Pt.U, Pt.locs, Pt.cells, Pt.slots] at X2 l2 y2 z2 st2 hQ2
 subst l2 y2 z2
 obtain ⟨rfl, N2q, eh2⟩ := hQ2
 have N2 := Fr.app N0 N2q
 refine ja (fun _ k => st2.trans k) ?_
 obtain ⟨_, T3, L3, X3, hQ3, st3⟩ := jaF X2 hx hZ hown ow270 ow271 ow273 ow263 (jdL l Z a0 hw [] b1 wl sz h1 n0 Z1 A1 g_b1 F1_list F1_size F1_cursor F1_isListIterator) eh2 rfl (by decide) (g := (jeb m 9 (oR wl) [(.int sz), (.ref wl), (.ref b1), (.ref b1)])) rfl (by rw [hml]; rfl) (rest := [(.ref b1)]) rfl (lenOf jau rfl) rfl (W := 1) (Nat.le_of_eq rfl) (dd 5 rfl) (by decide)
 obtain ⟨rfl, N3q, K3q, p3_0, p3_1, p3_2, p3_3⟩ := hQ3
 have N3 := Fr.app N2 N3q
 have f3_1 := (Fl0.ext E1).keep K3q (ninS (Exa.ne (El0.ext E1) A1 (by decide)) nin0)
 have f3_2 := (Fl1.ext E1).keep K3q (ninS (Exa.ne (El0.ext E1) A1 (by decide)) nin0)
 have f3_3 := jC (Se0.ext E1) K3q (allS (jaZ A1) all0)
 have Z3 : n0 ≤ T3.heap.size := Nat.le_trans Z1 K3q.1
 have K3 : Keep h0 T3.heap [] := K1.trans K3q (allS (Or.inr sz_b1) all0)
 refine ja st3 ?_
 refine jE X3 hx Bd hPf (by decide) (by decide) rfl rfl rfl (dd 6 rfl) ?_
 exact ⟨b1, rfl, N3, K3, sz_b1, (A1.keep K3q), p3_0, p3_1, p3_2, p3_3⟩
abbrev jcz (m : MethodId) (pc : Nat) (a0 a1 : Slot) (S : List Value) : JFrame := mkF m pc #[a0, a1] S
theorem oD44_5j : oDec jdk_44_method_5_code [(0, .iload_n 1, 1), (1, .ifCond .ne 8, 3), (4, .aload_n 0, 1), (5, .getfield 13, 3), (8, .areturn, 1), (9, .iload_n 1, 1), (10, .iconst 1, 1), (11, .if_icmp .ne 18, 3), (14, .aload_n 0, 1), (15, .getfield 24, 3), (18, .getstatic 19, 3), (21, .if_acmp .eq 8, 3), (24, .aload_n 0, 1), (25, .getfield 24, 3), (28, .areturn, 1), (29, .aload_n 0, 1), (30, .iload_n 1, 1), (31, .invokevirtual 27, 3), (34, .athrow, 1)] := by decide +kernel
def jjc (Z : State) (wl : Addr) (pi : Int32) (x0a y1a em : Addr) (r0 : Addr) (h0 : Heap) (n0 : Nat) (v : Option Value) (h : Heap) (L : List Loc) : Prop := v = some (.ref r0) ∧ Fr n0 L ∧ h = h0
theorem jhx (l : Launch) (Z : State) (a0 : Array Value) (hw : oH a0 Z) (ws : List Jvm.Cond) (wl : Addr) (pi : Int32) (x0a y1a em : Addr) (r0 : Addr) (h0 : Heap) (n0 : Nat) (Z0 : n0 ≤ h0.size) (El0 : Exa Z h0 wl S11') (Fl0 : Fld Z h0 wl S11' "e0" S9' (.ref x0a)) (Fl1 : Fld Z h0 wl S11' "e1" S9' (.ref y1a)) (Se0 : Sta Z h0 S29' "EMPTY" S9' (.ref em)) (hg1 : pi = 0 → r0 = x0a) (hg2 : ¬ pi = 0 → pi = 1 ∧ r0 = y1a ∧ y1a ≠ em) :
  ji l Z (⟨S11', "get", S59'⟩ : MethodName) jdk_44_method_5_code 2 (some (.object S0')) ws ({ frames := 0, cells := 0, slots := 0, locals := 0 } : Room) #[(.ref wl), (.int pi)] h0 (jjc Z wl pi x0a y1a em r0 h0 n0) := by
 refine jb (plainFor_of_name jD) (fun m => jas m wl pi) ?_
 intro p e s m below meth c s₁ Bd hx hby hml hown hZ X0 e0 Pf hPf
 have N0 := Fr.nil n0
 have dd := oD44_5j.hb hby
 have ow245 := ow hw 245 rfl
 have ow247 := ow hw 247 rfl
 have ow248 := ow hw 248 rfl
 refine ja (A := oW p e below s₁ (jcz m 1 (oR wl) (oi pi) [(.int pi)])) (fun t k => by
  refine XS.iloadN X0.here hx rfl (dd 0 rfl) rfl ?_
  exact k) ?_
 by_cases hc1_1 : pi = (0 : Int32)
 ·
  refine ja (A := oW p e below s₁ (jcz m 5 (oR wl) (oi pi) [(.ref wl)])) (fun t k => by
   refine XS.ifNo X0.here hx rfl (dd 1 rfl) rfl ((if0 _ _).trans (teq hc1_1).2) ?_
   refine XS.aloadN X0.here hx rfl (dd 2 rfl) rfl rfl ?_
   exact k) ?_
  obtain ⟨T2, X2, e2, st2⟩ := getF X0 hx hZ hown (host := "") (Or.inl ow245) Via.refl e0 Fl0 (g := (jcz m 5 (oR wl) (oi pi) [(.ref wl)])) rfl rfl (dd 3 rfl)
  refine ja st2 ?_
  refine jE X2 hx Bd hPf (by decide) (by decide) rfl rfl rfl (dd 4 rfl) ?_
  rw [e2]
  exact ⟨by rw [hg1 hc1_1], N0, rfl⟩
 ·
  refine ja (A := oW p e below s₁ (jcz m 15 (oR wl) (oi pi) [(.ref wl)])) (fun t k => by
   refine XS.ifYes X0.here hx rfl (pc0 := 1) (pc' := 9) rfl (dd 1 rfl) rfl ((if0 _ _).trans (feq hc1_1).2) (by decide) (by decide) ?_
   refine XS.iloadN X0.here hx rfl (dd 5 rfl) rfl ?_
   show oW p e below s₁ (jcz m 10 (oR wl) (oi pi) [(.int pi)]) _
   refine XS.iconst X0.here hx rfl (dd 6 rfl) ?_
   refine XS.icmpNo X0.here hx rfl (dd 7 rfl) rfl (teq (hg2 hc1_1).1).2 ?_
   refine XS.aloadN X0.here hx rfl (dd 8 rfl) rfl rfl ?_
   exact k) ?_
  obtain ⟨T3, X3, e3, st3⟩ := getF X0 hx hZ hown (host := "") (Or.inl ow248) Via.refl e0 Fl1 (g := (jcz m 15 (oR wl) (oi pi) [(.ref wl)])) rfl rfl (dd 9 rfl)
  refine ja st3 ?_
  obtain ⟨T4, X4, e4, st4⟩ := getS2 X3 hx hZ hown (Or.inr ow247) Via.refl e3 Se0 (g := (jcz m 18 (oR wl) (oi pi) [(.ref y1a)])) rfl (dd 10 rfl)
  refine ja st4 ?_
  refine ja (A := oW p e below T4 (jcz m 25 (oR wl) (oi pi) [(.ref wl)])) (fun t k => by
   refine Jvm.RoadKit.acmp (g := (jcz m 21 (oR wl) (oi pi) [(.ref em), (.ref y1a)])) X4 hx rfl rfl rfl (pc0 := 21) (pc' := 24) (same := false) rfl (dd 11 rfl) rfl (decide_eq_false fun q => (hg2 hc1_1).2.2 (Value.ref.inj q)) (by decide) (by decide) ?_
   refine XS.aloadN X4.here hx rfl (dd 12 rfl) rfl rfl ?_
   exact k) ?_
  obtain ⟨T5, X5, e5, st5⟩ := getF X4 hx hZ hown (host := "") (Or.inl ow248) Via.refl e4 Fl1 (g := (jcz m 25 (oR wl) (oi pi) [(.ref wl)])) rfl rfl (dd 13 rfl)
  refine ja st5 ?_
  refine jE X5 hx Bd hPf (by decide) (by decide) rfl rfl rfl (dd 14 rfl) ?_
  rw [e5]
  exact ⟨by rw [(hg2 hc1_1).2.1], N0, rfl⟩
abbrev jbG (m : MethodId) (pc : Nat) (a0 a1 a2 : Slot) (S : List Value) : JFrame := mkF m pc #[a0, a1, a2] S
theorem oD53_4j : oDec jdk_53_method_4_code [(0, .aload_n 0, 1), (1, .getfield 17, 3), (4, .istore_n 1, 1), (5, .aload_n 0, 1), (6, .getfield 7, 3), (9, .iload_n 1, 1), (10, .invokeinterface 24 2, 5), (15, .astore_n 2, 1), (16, .aload_n 0, 1), (17, .iload_n 1, 1), (18, .iconst 1, 1), (19, .iadd, 1), (20, .putfield 17, 3), (23, .aload_n 2, 1), (24, .areturn, 1), (25, .astore_n 1, 1), (26, .new 32, 3), (29, .dup, 1), (30, .invokespecial 34, 3), (33, .athrow, 1)] := by decide +kernel
theorem jft (m : MethodId) (x0 : Addr) : entryFrame m #[(.ref x0)] 3 = mkF m 0 #[(oR x0), ou, ou] [] := by first | (simp [entryFrame, mkF, argsToLocals, Value.category]; done) | rfl
def jhy (Z : State) (it : Addr) (wl : Addr) (x0a y1a em : Addr) (sz pi : Int32) (r0 : Addr) (h0 : Heap) (n0 : Nat) (v : Option Value) (h : Heap) (L : List Loc) : Prop := v = some (.ref r0) ∧ Fr n0 L ∧ Keep h0 h [it] ∧ Fld Z h it S6' "list" S14' (.ref wl) ∧ Fld Z h it S6' S8' "I" (.int sz) ∧ Fld Z h it S6' S20' "I" (.int (pi + (1 : Int32))) ∧ Fld Z h it S6' S28' "Z" (.int 0)
theorem jfu (l : Launch) (Z : State) (a0 : Array Value) (hw : ∀ d ∈ tables_1, d.before a0 Z = true) (ws : List Jvm.Cond) (it : Addr) (wl : Addr) (x0a y1a em : Addr) (sz pi : Int32) (r0 : Addr) (h0 : Heap) (n0 : Nat) (Z0 : n0 ≤ h0.size) (Ei0 : Exa Z h0 it S6') (g_it : n0 ≤ it) (Fi0 : Fld Z h0 it S6' "list" S14' (.ref wl)) (Fi1 : Fld Z h0 it S6' S8' "I" (.int sz)) (Fi2 : Fld Z h0 it S6' S20' "I" (.int pi)) (Fi3 : Fld Z h0 it S6' S28' "Z" (.int 0)) (El0 : Exa Z h0 wl S11') (Fl0 : Fld Z h0 wl S11' "e0" S9' (.ref x0a)) (Fl1 : Fld Z h0 wl S11' "e1" S9' (.ref y1a)) (Se0 : Sta Z h0 S29' "EMPTY" S9' (.ref em)) (hg1 : pi = 0 → r0 = x0a) (hg2 : ¬ pi = 0 → pi = 1 ∧ r0 = y1a ∧ y1a ≠ em) :
  MetFree l M15' (head1 (Jvm.Cond.codeWith M15' jdk_53_method_4_code 3 (some (.object S0')) [((0 : Nat), (24 : Nat), (25 : Nat), (30 : Nat))] :: ws) ({ frames := 1, cells := 0, slots := 0, locals := 13 } : Room)) (fun a U => a = #[(.ref it)] ∧ Z.Warmed39 U.vm ∧ U.heap = h0) (fun _ _ _ _ _ => True) (fun _ U o U' => ∃ v L, o = .returned v ∧ jhy Z it wl x0a y1a em sz pi r0 h0 n0 v U'.heap L ∧ FrameEnd U o U' L ({ frames := 1, cells := 0, slots := 0, locals := 13 } : Room).cells ({ frames := 1, cells := 0, slots := 0, locals := 13 } : Room).slots) := by
 refine MetFree.of_bodySF (plainFor_of_name js) hisWith ?_
 intro p e s m args below meth c s₁ Bd hml0 hP hKq_
 obtain ⟨rfl, hZ, hh⟩ := hP
 have hx := Bd.exec
 have hby := Bd.bytes
 have dd := oD53_4j.hb hby
 have hml : c.maxLocals = 3 := hml0
 have hown : s.vm.findClass S6' = some m.cls := findClass_of_methodNamed Bd.named
 have hnm := (name_of_methodNamed Bd.named Bd.method).1
 have ow223 := ow hw 223 rfl
 have ow259 := ow hw 259 rfl
 have ow262 := ow hw 262 rfl
 have ow275 := ow hw 275 rfl
 have ow279 := ow hw 279 rfl
 have ow280 := ow hw 280 rfl
 have ow300 := ow hw 300 rfl
 have ow301 := ow hw 301 rfl
 have ow302 := ow hw 302 rfl
 have ow303 := ow hw 303 rfl
 have ow304 := ow hw 304 rfl
 have ow305 := ow hw 305 rfl
 have ow306 := ow hw 306 rfl
 have ow307 := ow hw 307 rfl
 have X0 : Stand p l e ({ frames := 1, cells := 0, slots := 0, locals := 13 } : Room) s m #[(.ref it)] below meth c s₁ [] 0 0 := Stand.of_body Bd
 have e0 : s₁.heap = h0 := by rw [← hh, Bd.state]; rfl
 have N0 := Fr.nil n0
 have pre0 : ∀ t, Steps p.tables e below (s₁.setTop (mkF m 0 #[(oR it), ou, ou] [])) t → Steps p.tables e below (s₁.setTop (entryFrame m #[(.ref it)] 3)) t := fun t k => castTop (jft m it) k
 refine ja pre0 ?_
 refine jcV ?_
 intro Pf hPf
 refine ja (A := oW p e below s₁ (jbG m 1 (oR it) ou ou [(.ref it)])) (fun t k => by
  refine XS.aloadN X0.here hx rfl (dd 0 rfl) rfl rfl ?_
  exact k) ?_
 obtain ⟨T1, X1, e1, st1⟩ := getF X0 hx hZ hown (host := "") (Or.inl ow279) Via.refl e0 Fi2 (g := (jbG m 1 (oR it) ou ou [(.ref it)])) rfl rfl (dd 1 rfl)
 refine ja st1 ?_
 refine ja (A := oW p e below T1 (jbG m 6 (oR it) (oi pi) ou [(.ref it)])) (fun t k => by
  refine XS.istoreN X1.here hx rfl (dd 2 rfl) rfl (l' := #[(oR it), (oi pi), ou]) rfl ?_
  refine XS.aloadN X1.here hx rfl (dd 3 rfl) rfl rfl ?_
  exact k) ?_
 obtain ⟨T2, X2, e2, st2⟩ := getF X1 hx hZ hown (host := "") (Or.inl ow275) Via.refl e1 Fi0 (g := (jbG m 6 (oR it) (oi pi) ou [(.ref it)])) rfl rfl (dd 4 rfl)
 refine ja st2 ?_
 refine ja (A := oW p e below T2 (jbG m 10 (oR it) (oi pi) ou [(.int pi), (.ref wl)])) (fun t k => by
  refine XS.iloadN X2.here hx rfl (dd 5 rfl) rfl ?_
  exact k) ?_
 obtain ⟨_, T3, L3, X3, hQ3, st3⟩ := jaI X2 hx hZ hown ow300 ow301 ow303 ow304 (mvT hZ ow302) ow305 ow306 ow259 ow307 ow223 (jhx l Z a0 hw [] wl pi x0a y1a em r0 h0 n0 Z0 El0 Fl0 Fl1 Se0 hg1 hg2) e2 El0 (by decide) (g := (jbG m 10 (oR it) (oi pi) ou [(.int pi), (.ref wl)])) rfl (by rw [hml]; rfl) (rest := []) rfl (lenOf jT rfl) rfl (W := 0) (Nat.le_of_eq rfl) (dd 6 rfl) (by decide)
 obtain ⟨rfl, N3q, eh3⟩ := hQ3
 have N3 := Fr.app N0 N3q
 refine ja st3 ?_
 refine ja (A := oW p e below T3 (jbG m 20 (oR it) (oi pi) (oR r0) [(.int (pi + (1 : Int32))), (.ref it)])) (fun t k => by
  refine XS.astoreN X3.here hx rfl (dd 7 rfl) rfl rfl (l' := #[(oR it), (oi pi), (oR r0)]) rfl ?_
  show oW p e below T3 (jbG m 16 (oR it) (oi pi) (oR r0) []) _
  refine XS.aloadN X3.here hx rfl (dd 8 rfl) rfl rfl ?_
  refine XS.iloadN X3.here hx rfl (dd 9 rfl) rfl ?_
  refine XS.iconst X3.here hx rfl (dd 10 rfl) ?_
  refine XS.iadd X3.here hx rfl (dd 11 rfl) rfl ?_
  exact k) ?_
 obtain ⟨T4, h4, X4, e4, W4, st4⟩ := putF X3 hx hZ hown (host := "") (Or.inl ow279) Via.refl eh3 Fi2 Ei0 (Or.inl ow280) ow262 (ty := .int) (by decide) rfl rfl (g := (jbG m 20 (oR it) (oi pi) (oR r0) [(.int (pi + (1 : Int32))), (.ref it)])) rfl rfl (dd 12 rfl)
 refine ja st4 ?_
 have f4_1 := Fi0.other W4 (Or.inr (jdY hw))
 have f4_2 := Fi1.other W4 (Or.inr (jdZ hw))
 have f4_3 : Fld Z h4 it S6' S20' "I" (.int (pi + (1 : Int32))) := Fi2.same W4
 have f4_4 := Fi3.other W4 (Or.inr (jea hw))
 have f4_6 := Fl0.other W4 (Or.inl (Exa.ne El0 Ei0 (by decide)))
 have f4_7 := Fl1.other W4 (Or.inl (Exa.ne El0 Ei0 (by decide)))
 have N4 := Fr.snoc X4 N3 g_it
 have Z4 : n0 ≤ h4.size := Nat.le_trans Z0 (Keep.of_wr W4).1
 have K4 : Keep h0 h4 [it] := (Keep.refl h0 [it]).wr W4 (Or.inl (List.mem_of_getElem? (i := 0) rfl))
 refine ja (A := oW p e below T4 (jbG m 24 (oR it) (oi pi) (oR r0) [(.ref r0)])) (fun t k => by
  refine XS.aloadN X4.here hx rfl (dd 13 rfl) rfl rfl ?_
  exact k) ?_
 refine jE X4 hx Bd hPf (by decide) (by decide) rfl rfl rfl (dd 14 rfl) ?_
 rw [e4]
 exact ⟨rfl, N4, K4, f4_1, f4_2, f4_3, f4_4⟩
abbrev jec (m : MethodId) (pc : Nat) (a0 : Slot) (S : List Value) : JFrame := mkF m pc #[a0] S
theorem oD45_3j : oDec jdk_45_method_3_code [(0, .aload_n 0, 1), (1, .getfield 7, 3), (4, .arraylength, 1), (5, .ireturn, 1)] := by decide +kernel
def jhz (Z : State) (wl : Addr) (el : Addr) (kl : ClassId) (x0a x1a x2a : Addr) (h0 : Heap) (n0 : Nat) (v : Option Value) (h : Heap) (L : List Loc) : Prop := v = some (.int 3) ∧ Fr n0 L ∧ h = h0
theorem jdu (l : Launch) (Z : State) (a0 : Array Value) (hw : oH a0 Z) (ws : List Jvm.Cond) (wl : Addr) (el : Addr) (kl : ClassId) (x0a x1a x2a : Addr) (h0 : Heap) (n0 : Nat) (Z0 : n0 ≤ h0.size) (El0 : Exa Z h0 wl S17') (Fl0 : Fld Z h0 wl S17' S30' S4' (.ref el)) (Vl0 : Arv Z h0 el kl (.object S0') (3 : Int32) [(.ref x0a), (.ref x1a), (.ref x2a)] .null) :
  ji l Z M16' jdk_45_method_3_code 1 (some .int) ws ({ frames := 0, cells := 0, slots := 0, locals := 0 } : Room) #[(.ref wl)] h0 (jhz Z wl el kl x0a x1a x2a h0 n0) := by
 refine jb (plainFor_of_name jQ) (fun m => jr m wl) ?_
 intro p e s m below meth c s₁ Bd hx hby hml hown hZ X0 e0 Pf hPf
 have N0 := Fr.nil n0
 have dd := oD45_3j.hb hby
 have ow610 := ow hw 610 rfl
 refine ja (A := oW p e below s₁ (jec m 1 (oR wl) [(.ref wl)])) (fun t k => by
  refine XS.aloadN X0.here hx rfl (dd 0 rfl) rfl rfl ?_
  exact k) ?_
 obtain ⟨T1, X1, e1, st1⟩ := getF X0 hx hZ hown (host := "") (Or.inl ow610) Via.refl e0 Fl0 (g := (jec m 1 (oR wl) [(.ref wl)])) rfl rfl (dd 1 rfl)
 refine ja st1 ?_
 refine ja (A := oW p e below T1 (jec m 5 (oR wl) [(.int 3)])) (fun t k => by
  refine jM X1 hx hZ e1 Vl0 (g := (jec m 4 (oR wl) [(.ref el)])) rfl rfl (dd 2 rfl) _ ?_
  exact k) ?_
 refine jaD X1 hx Bd hPf (by decide) (by decide) (dd 3 rfl) ?_
 rw [e1]
 exact ⟨rfl, N0, rfl⟩
abbrev jed (m : MethodId) (pc : Nat) (a0 : Slot) (S : List Value) : JFrame := mkF m pc #[a0] S
def jhA (Z : State) (wl : Addr) (el : Addr) (kl : ClassId) (x0a x1a x2a : Addr) (h0 : Heap) (n0 : Nat) (v : Option Value) (h : Heap) (L : List Loc) : Prop := ∃ it : Addr, v = some (.ref it) ∧ Fr n0 L ∧ Keep h0 h [] ∧ h0.size ≤ it ∧ Exa Z h it S6' ∧ Fld Z h it S6' "list" S14' (.ref wl) ∧ Fld Z h it S6' S8' "I" (.int 3) ∧ Fld Z h it S6' S20' "I" (.int 0) ∧ Fld Z h it S6' S28' "Z" (.int 0)
theorem jfv (l : Launch) (Z : State) (a0 : Array Value) (hw : oH a0 Z) (ws : List Jvm.Cond) (wl : Addr) (el : Addr) (kl : ClassId) (x0a x1a x2a : Addr) (h0 : Heap) (n0 : Nat) (Z0 : n0 ≤ h0.size) (El0 : Exa Z h0 wl S17') (Fl0 : Fld Z h0 wl S17' S30' S4' (.ref el)) (Vl0 : Arv Z h0 el kl (.object S0') (3 : Int32) [(.ref x0a), (.ref x1a), (.ref x2a)] .null) :
  ji l Z M13' jdk_46_method_10_code 1 (some (.object "java/util/Iterator")) ws ({ frames := 2, cells := 1, slots := 4, locals := 27 } : Room) #[(.ref wl)] h0 (jhA Z wl el kl x0a x1a x2a h0 n0) := by
 refine jb (plainFor_of_name jx) (fun m => jr m wl) ?_
 intro p e s m below meth c s₁ Bd hx hby hml hown hZ X0 e0 Pf hPf
 have N0 := Fr.nil n0
 have dd := oD46_10j.hb hby
 have ow261 := ow hw 261 rfl
 have ow262 := ow hw 262 rfl
 have ow263 := ow hw 263 rfl
 have ow264 := ow hw 264 rfl
 have ow265 := ow hw 265 rfl
 have ow266 := ow hw 266 rfl
 have ow270 := ow hw 270 rfl
 have ow271 := ow hw 271 rfl
 have ow273 := ow hw 273 rfl
 have ow276 := ow hw 276 rfl
 have ow278 := ow hw 278 rfl
 have ow280 := ow hw 280 rfl
 have ow282 := ow hw 282 rfl
 have ow601 := ow hw 601 rfl
 have ow617 := ow hw 617 rfl
 have ow618 := ow hw 618 rfl
 have ow619 := ow hw 619 rfl
 obtain ⟨T1, h1, X1, e1, E1, A1, D1, -, st1⟩ := newO X0 hx hZ hown ow261 ow262 ow263 e0 (g := (jed m 0 (oR wl) [])) rfl (dd 0 rfl) (by decide) (by decide)
 obtain ⟨b1, g1⟩ : ∃ z, z = h0.size := ⟨_, rfl⟩
 rw [← g1] at A1 D1 st1
 refine ja st1 ?_
 have g_b1 : n0 ≤ b1 := Nat.le_trans Z0 (Nat.le_of_eq g1.symm)
 have Z1 : n0 ≤ h1.size := Nat.le_trans Z0 E1.1
 have sz_b1 : h0.size ≤ b1 := Nat.le_trans (Keep.refl h0 []).1 (Nat.le_of_eq g1.symm)
 have K1 : Keep h0 h1 [] := (Keep.refl h0 []).ext E1
 have F1_list : Fld Z h1 b1 S6' "list" S14' .null := D1 (Or.inr ow276) (ty := (.object S24')) (by decide)
 have F1_size : Fld Z h1 b1 S6' S8' "I" (.int 0) := D1 (Or.inr ow278) (ty := .int) (by decide)
 have F1_cursor : Fld Z h1 b1 S6' S20' "I" (.int 0) := D1 (Or.inl ow280) (ty := .int) (by decide)
 have F1_isListIterator : Fld Z h1 b1 S6' S28' "Z" (.int 0) := D1 (Or.inr ow282) (ty := .boolean) (by decide)
 refine ja (A := oW p e below T1 (jed m 6 (oR wl) [(.ref wl), (.ref wl), (.ref b1), (.ref b1)])) (fun t k => by
  refine XS.dup X1.here hx rfl (dd 1 rfl) rfl rfl ?_
  refine XS.aloadN X1.here hx rfl (dd 2 rfl) rfl rfl ?_
  refine XS.aloadN X1.here hx rfl (dd 3 rfl) rfl rfl ?_
  exact k) ?_
 obtain ⟨cq2, kq2, q2a, q2b, q2c⟩ := isOf hZ e1 (El0.ext E1)
 obtain ⟨_, _, ⟨T2, L2, k2, n2⟩, -, X2, ⟨Lc2, hQ2, l2, y2, z2⟩, st2⟩ := X1.virtualBackUp hx (owner := S60') (x := M14') (y := M16') hown (mvT hZ ow264) (mvT hZ ow265) (mvT hZ ow266) (by decide) (mvT hZ ow617) (mvT hZ ow618) (backOf (W := 3) (jdu l Z a0 hw [] wl el kl x0a x1a x2a h1 n0 Z1 (El0.ext E1) (Fl0.ext E1) (Vl0.ext E1)) hZ ow619 ow601 (by decide) (by decide)) q2a q2c (g := (jed m 6 (oR wl) [(.ref wl), (.ref wl), (.ref b1), (.ref b1)])) rfl (by rw [hml]; rfl) (Steps.refl _) (argsL := []) (rest := [(.ref wl), (.ref b1), (.ref b1)]) (lenOf jag rfl) rfl (by show 2 * 0 + _ ≤ _; exact Nat.le_of_eq rfl) (dd 4 rfl) (fun _ _ => ⟨rfl, e1, (by decide : 1 + 0 ≤ _), (by decide : 4 + 0 ≤ _)⟩)
 dsimp only [Pt.U, Pt.locs, Pt.cells, Pt.slots] at X2 l2 y2 z2 st2 hQ2
 subst l2 y2 z2
 obtain ⟨rfl, N2q, eh2⟩ := hQ2
 have N2 := Fr.app N0 N2q
 refine ja (fun _ k => st2.trans k) ?_
 obtain ⟨_, T3, L3, X3, hQ3, st3⟩ := jaF X2 hx hZ hown ow270 ow271 ow273 ow263 (jdL l Z a0 hw [] b1 wl (3 : Int32) h1 n0 Z1 A1 g_b1 F1_list F1_size F1_cursor F1_isListIterator) eh2 rfl (by decide) (g := (jed m 9 (oR wl) [(.int 3), (.ref wl), (.ref b1), (.ref b1)])) rfl (by rw [hml]; rfl) (rest := [(.ref b1)]) rfl (lenOf jau rfl) rfl (W := 1) (Nat.le_of_eq rfl) (dd 5 rfl) (by decide)
 obtain ⟨rfl, N3q, K3q, p3_0, p3_1, p3_2, p3_3⟩ := hQ3
 have N3 := Fr.app N2 N3q
 have f3_1 := (Fl0.ext E1).keep K3q (ninS (Exa.ne (El0.ext E1) A1 (by decide)) nin0)
 have f3_2 := (Vl0.ext E1).keep K3q (ninS (Ne.symm (Exa.neArv A1 (Vl0.ext E1) ow262)) nin0)
 have Z3 : n0 ≤ T3.heap.size := Nat.le_trans Z1 K3q.1
 have K3 : Keep h0 T3.heap [] := K1.trans K3q (allS (Or.inr sz_b1) all0)
 refine ja st3 ?_
 refine jE X3 hx Bd hPf (by decide) (by decide) rfl rfl rfl (dd 6 rfl) ?_
 exact ⟨b1, rfl, N3, K3, sz_b1, (A1.keep K3q), p3_0, p3_1, p3_2, p3_3⟩
abbrev jfW (m : MethodId) (pc : Nat) (a0 a1 : Slot) (S : List Value) : JFrame := mkF m pc #[a0, a1] S
theorem oD45_4j : oDec jdk_45_method_4_code [(0, .aload_n 0, 1), (1, .getfield 7, 3), (4, .iload_n 1, 1), (5, .aaload, 1), (6, .areturn, 1)] := by decide +kernel
def jjd (Z : State) (wl : Addr) (pi : Int32) (el : Addr) (kl : ClassId) (x0a x1a x2a : Addr) (r0 : Addr) (h0 : Heap) (n0 : Nat) (v : Option Value) (h : Heap) (L : List Loc) : Prop := v = some (.ref r0) ∧ Fr n0 L ∧ h = h0
theorem jhB (l : Launch) (Z : State) (a0 : Array Value) (hw : oH a0 Z) (ws : List Jvm.Cond) (wl : Addr) (pi : Int32) (el : Addr) (kl : ClassId) (x0a x1a x2a : Addr) (r0 : Addr) (h0 : Heap) (n0 : Nat) (Z0 : n0 ≤ h0.size) (El0 : Exa Z h0 wl S17') (Fl0 : Fld Z h0 wl S17' S30' S4' (.ref el)) (Vl0 : Arv Z h0 el kl (.object S0') (3 : Int32) [(.ref x0a), (.ref x1a), (.ref x2a)] .null) (hg0 : ¬ pi < (0 : Int32) ∧ pi < 3) (hg1 : ([.ref x0a, .ref x1a, .ref x2a] : List Value).getD pi.toNatClampNeg .null = .ref r0) :
  ji l Z (⟨S17', "get", S59'⟩ : MethodName) jdk_45_method_4_code 2 (some (.object S0')) ws ({ frames := 0, cells := 0, slots := 0, locals := 0 } : Room) #[(.ref wl), (.int pi)] h0 (jjd Z wl pi el kl x0a x1a x2a r0 h0 n0) := by
 refine jb (plainFor_of_name jQ) (fun m => jas m wl pi) ?_
 intro p e s m below meth c s₁ Bd hx hby hml hown hZ X0 e0 Pf hPf
 have N0 := Fr.nil n0
 have dd := oD45_4j.hb hby
 have ow610 := ow hw 610 rfl
 refine ja (A := oW p e below s₁ (jfW m 1 (oR wl) (oi pi) [(.ref wl)])) (fun t k => by
  refine XS.aloadN X0.here hx rfl (dd 0 rfl) rfl rfl ?_
  exact k) ?_
 obtain ⟨T1, X1, e1, st1⟩ := getF X0 hx hZ hown (host := "") (Or.inl ow610) Via.refl e0 Fl0 (g := (jfW m 1 (oR wl) (oi pi) [(.ref wl)])) rfl rfl (dd 1 rfl)
 refine ja st1 ?_
 refine ja (A := oW p e below T1 (jfW m 6 (oR wl) (oi pi) [(.ref r0)])) (fun t k => by
  refine XS.iloadN X1.here hx rfl (dd 2 rfl) rfl ?_
  refine jbA X1 hx hZ e1 Vl0 hg0 (v := (.ref r0)) hg1 (g := (jfW m 5 (oR wl) (oi pi) [(.int pi), (.ref el)])) rfl rfl (dd 3 rfl) _ ?_
  exact k) ?_
 refine jE X1 hx Bd hPf (by decide) (by decide) rfl rfl rfl (dd 4 rfl) ?_
 rw [e1]
 exact ⟨rfl, N0, rfl⟩
abbrev jbH (m : MethodId) (pc : Nat) (a0 a1 a2 : Slot) (S : List Value) : JFrame := mkF m pc #[a0, a1, a2] S
theorem jfw (m : MethodId) (x0 : Addr) : entryFrame m #[(.ref x0)] 3 = mkF m 0 #[(oR x0), ou, ou] [] := by first | (simp [entryFrame, mkF, argsToLocals, Value.category]; done) | rfl
def jhC (Z : State) (it : Addr) (wl : Addr) (el : Addr) (kl : ClassId) (x0a x1a x2a : Addr) (sz pi : Int32) (r0 : Addr) (h0 : Heap) (n0 : Nat) (v : Option Value) (h : Heap) (L : List Loc) : Prop := v = some (.ref r0) ∧ Fr n0 L ∧ Keep h0 h [it] ∧ Fld Z h it S6' "list" S14' (.ref wl) ∧ Fld Z h it S6' S8' "I" (.int sz) ∧ Fld Z h it S6' S20' "I" (.int (pi + (1 : Int32))) ∧ Fld Z h it S6' S28' "Z" (.int 0)
theorem jfx (l : Launch) (Z : State) (a0 : Array Value) (hw : ∀ d ∈ tables_1, d.before a0 Z = true) (ws : List Jvm.Cond) (it : Addr) (wl : Addr) (el : Addr) (kl : ClassId) (x0a x1a x2a : Addr) (sz pi : Int32) (r0 : Addr) (h0 : Heap) (n0 : Nat) (Z0 : n0 ≤ h0.size) (Ei0 : Exa Z h0 it S6') (g_it : n0 ≤ it) (Fi0 : Fld Z h0 it S6' "list" S14' (.ref wl)) (Fi1 : Fld Z h0 it S6' S8' "I" (.int sz)) (Fi2 : Fld Z h0 it S6' S20' "I" (.int pi)) (Fi3 : Fld Z h0 it S6' S28' "Z" (.int 0)) (El0 : Exa Z h0 wl S17') (Fl0 : Fld Z h0 wl S17' S30' S4' (.ref el)) (Vl0 : Arv Z h0 el kl (.object S0') (3 : Int32) [(.ref x0a), (.ref x1a), (.ref x2a)] .null) (hg0 : ¬ pi < (0 : Int32) ∧ pi < 3) (hg1 : ([.ref x0a, .ref x1a, .ref x2a] : List Value).getD pi.toNatClampNeg .null = .ref r0) :
  MetFree l M15' (head1 (Jvm.Cond.codeWith M15' jdk_53_method_4_code 3 (some (.object S0')) [((0 : Nat), (24 : Nat), (25 : Nat), (30 : Nat))] :: ws) ({ frames := 1, cells := 0, slots := 0, locals := 13 } : Room)) (fun a U => a = #[(.ref it)] ∧ Z.Warmed39 U.vm ∧ U.heap = h0) (fun _ _ _ _ _ => True) (fun _ U o U' => ∃ v L, o = .returned v ∧ jhC Z it wl el kl x0a x1a x2a sz pi r0 h0 n0 v U'.heap L ∧ FrameEnd U o U' L ({ frames := 1, cells := 0, slots := 0, locals := 13 } : Room).cells ({ frames := 1, cells := 0, slots := 0, locals := 13 } : Room).slots) := by
 refine MetFree.of_bodySF (plainFor_of_name js) hisWith ?_
 intro p e s m args below meth c s₁ Bd hml0 hP hKq_
 obtain ⟨rfl, hZ, hh⟩ := hP
 have hx := Bd.exec
 have hby := Bd.bytes
 have dd := oD53_4j.hb hby
 have hml : c.maxLocals = 3 := hml0
 have hown : s.vm.findClass S6' = some m.cls := findClass_of_methodNamed Bd.named
 have hnm := (name_of_methodNamed Bd.named Bd.method).1
 have ow262 := ow hw 262 rfl
 have ow275 := ow hw 275 rfl
 have ow279 := ow hw 279 rfl
 have ow280 := ow hw 280 rfl
 have ow300 := ow hw 300 rfl
 have ow301 := ow hw 301 rfl
 have ow302 := ow hw 302 rfl
 have ow601 := ow hw 601 rfl
 have ow616 := ow hw 616 rfl
 have ow620 := ow hw 620 rfl
 have ow621 := ow hw 621 rfl
 have ow622 := ow hw 622 rfl
 have ow623 := ow hw 623 rfl
 have ow624 := ow hw 624 rfl
 have X0 : Stand p l e ({ frames := 1, cells := 0, slots := 0, locals := 13 } : Room) s m #[(.ref it)] below meth c s₁ [] 0 0 := Stand.of_body Bd
 have e0 : s₁.heap = h0 := by rw [← hh, Bd.state]; rfl
 have N0 := Fr.nil n0
 have pre0 : ∀ t, Steps p.tables e below (s₁.setTop (mkF m 0 #[(oR it), ou, ou] [])) t → Steps p.tables e below (s₁.setTop (entryFrame m #[(.ref it)] 3)) t := fun t k => castTop (jfw m it) k
 refine ja pre0 ?_
 refine jcV ?_
 intro Pf hPf
 refine ja (A := oW p e below s₁ (jbH m 1 (oR it) ou ou [(.ref it)])) (fun t k => by
  refine XS.aloadN X0.here hx rfl (dd 0 rfl) rfl rfl ?_
  exact k) ?_
 obtain ⟨T1, X1, e1, st1⟩ := getF X0 hx hZ hown (host := "") (Or.inl ow279) Via.refl e0 Fi2 (g := (jbH m 1 (oR it) ou ou [(.ref it)])) rfl rfl (dd 1 rfl)
 refine ja st1 ?_
 refine ja (A := oW p e below T1 (jbH m 6 (oR it) (oi pi) ou [(.ref it)])) (fun t k => by
  refine XS.istoreN X1.here hx rfl (dd 2 rfl) rfl (l' := #[(oR it), (oi pi), ou]) rfl ?_
  refine XS.aloadN X1.here hx rfl (dd 3 rfl) rfl rfl ?_
  exact k) ?_
 obtain ⟨T2, X2, e2, st2⟩ := getF X1 hx hZ hown (host := "") (Or.inl ow275) Via.refl e1 Fi0 (g := (jbH m 6 (oR it) (oi pi) ou [(.ref it)])) rfl rfl (dd 4 rfl)
 refine ja st2 ?_
 refine ja (A := oW p e below T2 (jbH m 10 (oR it) (oi pi) ou [(.int pi), (.ref wl)])) (fun t k => by
  refine XS.iloadN X2.here hx rfl (dd 5 rfl) rfl ?_
  exact k) ?_
 obtain ⟨_, T3, L3, X3, hQ3, st3⟩ := jaI X2 hx hZ hown ow300 ow301 ow620 ow621 (mvT hZ ow302) ow622 ow623 ow616 ow624 ow601 (jhB l Z a0 hw [] wl pi el kl x0a x1a x2a r0 h0 n0 Z0 El0 Fl0 Vl0 hg0 hg1) e2 El0 (by decide) (g := (jbH m 10 (oR it) (oi pi) ou [(.int pi), (.ref wl)])) rfl (by rw [hml]; rfl) (rest := []) rfl (lenOf jT rfl) rfl (W := 0) (Nat.le_of_eq rfl) (dd 6 rfl) (by decide)
 obtain ⟨rfl, N3q, eh3⟩ := hQ3
 have N3 := Fr.app N0 N3q
 refine ja st3 ?_
 refine ja (A := oW p e below T3 (jbH m 20 (oR it) (oi pi) (oR r0) [(.int (pi + (1 : Int32))), (.ref it)])) (fun t k => by
  refine XS.astoreN X3.here hx rfl (dd 7 rfl) rfl rfl (l' := #[(oR it), (oi pi), (oR r0)]) rfl ?_
  show oW p e below T3 (jbH m 16 (oR it) (oi pi) (oR r0) []) _
  refine XS.aloadN X3.here hx rfl (dd 8 rfl) rfl rfl ?_
  refine XS.iloadN X3.here hx rfl (dd 9 rfl) rfl ?_
  refine XS.iconst X3.here hx rfl (dd 10 rfl) ?_
  refine XS.iadd X3.here hx rfl (dd 11 rfl) rfl ?_
  exact k) ?_
 obtain ⟨T4, h4, X4, e4, W4, st4⟩ := putF X3 hx hZ hown (host := "") (Or.inl ow279) Via.refl eh3 Fi2 Ei0 (Or.inl ow280) ow262 (ty := .int) (by decide) rfl rfl (g := (jbH m 20 (oR it) (oi pi) (oR r0) [(.int (pi + (1 : Int32))), (.ref it)])) rfl rfl (dd 12 rfl)
 refine ja st4 ?_
 have f4_1 := Fi0.other W4 (Or.inr (jdY hw))
 have f4_2 := Fi1.other W4 (Or.inr (jdZ hw))
 have f4_3 : Fld Z h4 it S6' S20' "I" (.int (pi + (1 : Int32))) := Fi2.same W4
 have f4_4 := Fi3.other W4 (Or.inr (jea hw))
 have f4_6 := Fl0.other W4 (Or.inl (Exa.ne El0 Ei0 (by decide)))
 have f4_7 := Vl0.other W4 ((Ne.symm (Exa.neArv Ei0 Vl0 ow262)))
 have N4 := Fr.snoc X4 N3 g_it
 have Z4 : n0 ≤ h4.size := Nat.le_trans Z0 (Keep.of_wr W4).1
 have K4 : Keep h0 h4 [it] := (Keep.refl h0 [it]).wr W4 (Or.inl (List.mem_of_getElem? (i := 0) rfl))
 refine ja (A := oW p e below T4 (jbH m 24 (oR it) (oi pi) (oR r0) [(.ref r0)])) (fun t k => by
  refine XS.aloadN X4.here hx rfl (dd 13 rfl) rfl rfl ?_
  exact k) ?_
 refine jE X4 hx Bd hPf (by decide) (by decide) rfl rfl rfl (dd 14 rfl) ?_
 rw [e4]
 exact ⟨rfl, N4, K4, f4_1, f4_2, f4_3, f4_4⟩
abbrev jdv (m : MethodId) (pc : Nat) (a0 : Slot) (S : List Value) : JFrame := mkF m pc #[a0] S
theorem oD53_3j : oDec jdk_53_method_3_code [(0, .aload_n 0, 1), (1, .getfield 17, 3), (4, .aload_n 0, 1), (5, .getfield 13, 3), (8, .if_icmp .eq 7, 3), (11, .iconst 1, 1), (12, .goto 4, 3), (15, .iconst 0, 1), (16, .ireturn, 1)] := by decide +kernel
def jhD (Z : State) (it : Addr) (sz cu : Int32) (h0 : Heap) (n0 : Nat) (v : Option Value) (h : Heap) (L : List Loc) : Prop := v = some (.int 0) ∧ Fr n0 L ∧ h = h0
theorem jfy (l : Launch) (Z : State) (a0 : Array Value) (hw : oH a0 Z) (ws : List Jvm.Cond) (it : Addr) (sz cu : Int32) (h0 : Heap) (n0 : Nat) (Z0 : n0 ≤ h0.size) (Fi1 : Fld Z h0 it S6' S8' "I" (.int sz)) (Fi2 : Fld Z h0 it S6' S20' "I" (.int cu)) (hcu : cu = sz) :
  ji l Z M17' jdk_53_method_3_code 1 (some .boolean) ws ({ frames := 0, cells := 0, slots := 0, locals := 0 } : Room) #[(.ref it)] h0 (jhD Z it sz cu h0 n0) := by
 refine jb (plainFor_of_name js) (fun m => jr m it) ?_
 intro p e s m below meth c s₁ Bd hx hby hml hown hZ X0 e0 Pf hPf
 have N0 := Fr.nil n0
 have dd := oD53_3j.hb hby
 have ow277 := ow hw 277 rfl
 have ow279 := ow hw 279 rfl
 refine ja (A := oW p e below s₁ (jdv m 1 (oR it) [(.ref it)])) (fun t k => by
  refine XS.aloadN X0.here hx rfl (dd 0 rfl) rfl rfl ?_
  exact k) ?_
 obtain ⟨T1, X1, e1, st1⟩ := getF X0 hx hZ hown (host := "") (Or.inl ow279) Via.refl e0 Fi2 (g := (jdv m 1 (oR it) [(.ref it)])) rfl rfl (dd 1 rfl)
 refine ja st1 ?_
 refine ja (A := oW p e below T1 (jdv m 5 (oR it) [(.ref it), (.int cu)])) (fun t k => by
  refine XS.aloadN X1.here hx rfl (dd 2 rfl) rfl rfl ?_
  exact k) ?_
 obtain ⟨T2, X2, e2, st2⟩ := getF X1 hx hZ hown (host := "") (Or.inl ow277) Via.refl e1 Fi1 (g := (jdv m 5 (oR it) [(.ref it), (.int cu)])) rfl rfl (dd 3 rfl)
 refine ja st2 ?_
 refine ja (A := oW p e below T2 (jdv m 16 (oR it) [(.int 0)])) (fun t k => by
  refine XS.icmpYes X2.here hx rfl (pc0 := 8) (pc' := 15) rfl (dd 4 rfl) rfl (teq hcu).1 (by decide) (by decide) ?_
  refine XS.iconst X2.here hx rfl (dd 7 rfl) ?_
  exact k) ?_
 refine jaw X2 hx Bd (by simp) hPf (by decide) (by decide) (dd 8 rfl) ?_
 rw [e2]
 exact ⟨rfl, N0, rfl⟩
abbrev jdw (m : MethodId) (pc : Nat) (a0 : Slot) (S : List Value) : JFrame := mkF m pc #[a0] S
def jhE (Z : State) (it : Addr) (sz cu : Int32) (h0 : Heap) (n0 : Nat) (v : Option Value) (h : Heap) (L : List Loc) : Prop := v = some (.int 1) ∧ Fr n0 L ∧ h = h0
theorem jfz (l : Launch) (Z : State) (a0 : Array Value) (hw : oH a0 Z) (ws : List Jvm.Cond) (it : Addr) (sz cu : Int32) (h0 : Heap) (n0 : Nat) (Z0 : n0 ≤ h0.size) (Fi1 : Fld Z h0 it S6' S8' "I" (.int sz)) (Fi2 : Fld Z h0 it S6' S20' "I" (.int cu)) (hcu : ¬ cu = sz) :
  ji l Z M17' jdk_53_method_3_code 1 (some .boolean) ws ({ frames := 0, cells := 0, slots := 0, locals := 0 } : Room) #[(.ref it)] h0 (jhE Z it sz cu h0 n0) := by
 refine jb (plainFor_of_name js) (fun m => jr m it) ?_
 intro p e s m below meth c s₁ Bd hx hby hml hown hZ X0 e0 Pf hPf
 have N0 := Fr.nil n0
 have dd := oD53_3j.hb hby
 have ow277 := ow hw 277 rfl
 have ow279 := ow hw 279 rfl
 refine ja (A := oW p e below s₁ (jdw m 1 (oR it) [(.ref it)])) (fun t k => by
  refine XS.aloadN X0.here hx rfl (dd 0 rfl) rfl rfl ?_
  exact k) ?_
 obtain ⟨T1, X1, e1, st1⟩ := getF X0 hx hZ hown (host := "") (Or.inl ow279) Via.refl e0 Fi2 (g := (jdw m 1 (oR it) [(.ref it)])) rfl rfl (dd 1 rfl)
 refine ja st1 ?_
 refine ja (A := oW p e below T1 (jdw m 5 (oR it) [(.ref it), (.int cu)])) (fun t k => by
  refine XS.aloadN X1.here hx rfl (dd 2 rfl) rfl rfl ?_
  exact k) ?_
 obtain ⟨T2, X2, e2, st2⟩ := getF X1 hx hZ hown (host := "") (Or.inl ow277) Via.refl e1 Fi1 (g := (jdw m 5 (oR it) [(.ref it), (.int cu)])) rfl rfl (dd 3 rfl)
 refine ja st2 ?_
 refine ja (A := oW p e below T2 (jdw m 16 (oR it) [(.int 1)])) (fun t k => by
  refine XS.icmpNo X2.here hx rfl (dd 4 rfl) rfl (feq hcu).1 ?_
  refine XS.iconst X2.here hx rfl (dd 5 rfl) ?_
  refine XS.goto X2.here hx rfl (pc0 := 12) (pc' := 16) rfl (dd 6 rfl) (by decide) (by decide) ?_
  exact k) ?_
 refine jaw X2 hx Bd (by simp) hPf (by decide) (by decide) (dd 8 rfl) ?_
 rw [e2]
 exact ⟨rfl, N0, rfl⟩
abbrev jcA (m : MethodId) (pc : Nat) (a0 a1 : Slot) (S : List Value) : JFrame := mkF m pc #[a0, a1] S
theorem oD49_1j : oDec jdk_49_method_1_code [(0, .aload_n 0, 1), (1, .aload_n 1, 1), (2, .putfield 1, 3), (5, .aload_n 0, 1), (6, .invokespecial 7, 3), (9, .aload_n 0, 1), (10, .iconst (-1), 1), (11, .putfield 13, 3), (14, .aload_n 0, 1), (15, .aload_n 0, 1), (16, .getfield 1, 3), (19, .getfield 17, 3), (22, .putfield 22, 3), (25, .return_, 1)] := by decide +kernel
theorem jko {a0 : Array Value} {Z : State} (hw : oH a0 Z) : jc Z S13' S46' "I" ≠ jc Z S13' "this$0" S38' := jg (C := S13') (Or.inl (ow hw 530 rfl)) (Or.inr (ow hw 527 rfl)) (by decide) rfl rfl
theorem jkp {a0 : Array Value} {Z : State} (hw : oH a0 Z) : jc Z S13' S47' "I" ≠ jc Z S13' "this$0" S38' := jg (C := S13') (Or.inl (ow hw 533 rfl)) (Or.inr (ow hw 527 rfl)) (by decide) rfl rfl
theorem jkq {a0 : Array Value} {Z : State} (hw : oH a0 Z) : jc Z S13' S20' "I" ≠ jc Z S13' "this$0" S38' := jg (C := S13') (Or.inl (ow hw 541 rfl)) (Or.inr (ow hw 527 rfl)) (by decide) rfl rfl
theorem jkr {a0 : Array Value} {Z : State} (hw : oH a0 Z) : jc Z S13' "this$0" S38' ≠ jc Z S13' S46' "I" := jg (C := S13') (Or.inr (ow hw 527 rfl)) (Or.inl (ow hw 530 rfl)) (by decide) rfl rfl
theorem jks {a0 : Array Value} {Z : State} (hw : oH a0 Z) : jc Z S13' S47' "I" ≠ jc Z S13' S46' "I" := jg (C := S13') (Or.inl (ow hw 533 rfl)) (Or.inl (ow hw 530 rfl)) (by decide) rfl rfl
theorem jkt {a0 : Array Value} {Z : State} (hw : oH a0 Z) : jc Z S13' S20' "I" ≠ jc Z S13' S46' "I" := jg (C := S13') (Or.inl (ow hw 541 rfl)) (Or.inl (ow hw 530 rfl)) (by decide) rfl rfl
theorem jku {a0 : Array Value} {Z : State} (hw : oH a0 Z) : jc Z S13' "this$0" S38' ≠ jc Z S13' S47' "I" := jg (C := S13') (Or.inr (ow hw 527 rfl)) (Or.inl (ow hw 533 rfl)) (by decide) rfl rfl
theorem jkv {a0 : Array Value} {Z : State} (hw : oH a0 Z) : jc Z S13' S46' "I" ≠ jc Z S13' S47' "I" := jg (C := S13') (Or.inl (ow hw 530 rfl)) (Or.inl (ow hw 533 rfl)) (by decide) rfl rfl
theorem jkw {a0 : Array Value} {Z : State} (hw : oH a0 Z) : jc Z S13' S20' "I" ≠ jc Z S13' S47' "I" := jg (C := S13') (Or.inl (ow hw 541 rfl)) (Or.inl (ow hw 533 rfl)) (by decide) rfl rfl
def jje (Z : State) (ai : Addr) (pa : Addr) (mc : Int32) (h0 : Heap) (n0 : Nat) (v : Option Value) (h : Heap) (L : List Loc) : Prop := v = none ∧ Fr n0 L ∧ Keep h0 h [ai] ∧ Fld Z h ai S13' "this$0" S38' (.ref pa) ∧ Fld Z h ai S13' S46' "I" (.int (-1)) ∧ Fld Z h ai S13' S47' "I" (.int mc) ∧ Fld Z h ai S13' S20' "I" (.int 0)
theorem jaC : plainName "java/util/ArrayList$Itr" = true := by first | (simp [plainName, overriddenIn]; done) | decide +kernel
theorem jhF (l : Launch) (Z : State) (a0 : Array Value) (hw : oH a0 Z) (ws : List Jvm.Cond) (ai : Addr) (pa : Addr) (mc : Int32) (h0 : Heap) (n0 : Nat) (Z0 : n0 ≤ h0.size) (Ei0 : Exa Z h0 ai S13') (g_ai : n0 ≤ ai) (Fi0 : Fld Z h0 ai S13' "this$0" S38' .null) (Fi1 : Fld Z h0 ai S13' S46' "I" (.int 0)) (Fi2 : Fld Z h0 ai S13' S47' "I" (.int 0)) (Fi3 : Fld Z h0 ai S13' S20' "I" (.int 0)) (Ea0 : Exa Z h0 pa S3') (Fm0 : Fld Z h0 pa S19' S12' "I" (.int mc)) :
  ji l Z (⟨S13', S27', "(Ljava/util/ArrayList;)V"⟩ : MethodName) jdk_49_method_1_code 2 none ws ({ frames := 1, cells := 0, slots := 0, locals := 12 } : Room) #[(.ref ai), (.ref pa)] h0 (jje Z ai pa mc h0 n0) := by
 refine jb (plainFor_of_name jaC) (fun m => jar m ai pa) ?_
 intro p e s m below meth c s₁ Bd hx hby hml hown hZ X0 e0 Pf hPf
 have N0 := Fr.nil n0
 have dd := oD49_1j.hb hby
 have hnm := (name_of_methodNamed Bd.named Bd.method).1
 have ow20 := ow hw 20 rfl
 have ow21 := ow hw 21 rfl
 have ow61 := ow hw 61 rfl
 have ow520 := ow hw 520 rfl
 have ow526 := ow hw 526 rfl
 have ow527 := ow hw 527 rfl
 have ow528 := ow hw 528 rfl
 have ow529 := ow hw 529 rfl
 have ow530 := ow hw 530 rfl
 have ow531 := ow hw 531 rfl
 have ow532 := ow hw 532 rfl
 have ow533 := ow hw 533 rfl
 refine ja (A := oW p e below s₁ (jcA m 2 (oR ai) (oR pa) [(.ref pa), (.ref ai)])) (fun t k => by
  refine XS.aloadN X0.here hx rfl (dd 0 rfl) rfl rfl ?_
  refine XS.aloadN X0.here hx rfl (dd 1 rfl) rfl rfl ?_
  exact k) ?_
 obtain ⟨T1, h1, X1, e1, W1, st1⟩ := putF X0 hx hZ hown (host := "") (Or.inl ow526) Via.refl e0 Fi0 Ei0 (Or.inr ⟨ow527, rfl, hnm⟩) ow520 (ty := (.object S3')) (by decide) rfl rfl (g := (jcA m 2 (oR ai) (oR pa) [(.ref pa), (.ref ai)])) rfl rfl (dd 2 rfl)
 refine ja st1 ?_
 have f1_1 : Fld Z h1 ai S13' "this$0" S38' (.ref pa) := Fi0.same W1
 have f1_2 := Fi1.other W1 (Or.inr (jko hw))
 have f1_3 := Fi2.other W1 (Or.inr (jkp hw))
 have f1_4 := Fi3.other W1 (Or.inr (jkq hw))
 have f1_6 := Fm0.other W1 (Or.inl (Exa.ne Ea0 Ei0 (by decide)))
 have N1 := Fr.snoc X1 N0 g_ai
 have Z1 : n0 ≤ h1.size := Nat.le_trans Z0 (Keep.of_wr W1).1
 have K1 : Keep h0 h1 [ai] := (Keep.refl h0 [ai]).wr W1 (Or.inl (List.mem_of_getElem? (i := 0) rfl))
 refine ja (A := oW p e below T1 (jcA m 6 (oR ai) (oR pa) [(.ref ai)])) (fun t k => by
  refine XS.aloadN X1.here hx rfl (dd 3 rfl) rfl rfl ?_
  exact k) ?_
 obtain ⟨T2, X2, e2, st2⟩ := initO X1 hx hZ hown ow528 ow20 ow21 e1 (g := (jcA m 6 (oR ai) (oR pa) [(.ref ai)])) rfl (by rw [hml]; rfl) rfl (dd 4 rfl) (by decide) (W := 0) (by show 2 * 0 + _ ≤ _; exact Nat.le_of_eq rfl) (by decide)
 refine ja st2 ?_
 refine ja (A := oW p e below T2 (jcA m 11 (oR ai) (oR pa) [(.int (-1)), (.ref ai)])) (fun t k => by
  refine XS.aloadN X2.here hx rfl (dd 5 rfl) rfl rfl ?_
  refine XS.iconst X2.here hx rfl (dd 6 rfl) ?_
  exact k) ?_
 obtain ⟨T3, h3, X3, e3, W3, st3⟩ := putF X2 hx hZ hown (host := "") (Or.inl ow529) Via.refl e2 f1_2 (Ei0.wr W1) (Or.inl ow530) ow520 (ty := .int) (by decide) rfl rfl (g := (jcA m 11 (oR ai) (oR pa) [(.int (-1)), (.ref ai)])) rfl rfl (dd 7 rfl)
 refine ja st3 ?_
 have f3_1 := f1_1.other W3 (Or.inr (jkr hw))
 have f3_2 : Fld Z h3 ai S13' S46' "I" (.int (-1)) := f1_2.same W3
 have f3_3 := f1_3.other W3 (Or.inr (jks hw))
 have f3_4 := f1_4.other W3 (Or.inr (jkt hw))
 have f3_6 := f1_6.other W3 (Or.inl (Exa.ne (Ea0.wr W1) (Ei0.wr W1) (by decide)))
 have N3 := Fr.snoc X3 N1 g_ai
 have Z3 : n0 ≤ h3.size := Nat.le_trans Z1 (Keep.of_wr W3).1
 have K3 : Keep h0 h3 [ai] := K1.wr W3 (Or.inl (List.mem_of_getElem? (i := 0) rfl))
 refine ja (A := oW p e below T3 (jcA m 16 (oR ai) (oR pa) [(.ref ai), (.ref ai)])) (fun t k => by
  refine XS.aloadN X3.here hx rfl (dd 8 rfl) rfl rfl ?_
  refine XS.aloadN X3.here hx rfl (dd 9 rfl) rfl rfl ?_
  exact k) ?_
 obtain ⟨T4, X4, e4, st4⟩ := getF X3 hx hZ hown (host := "") (Or.inl ow526) Via.refl e3 f3_1 (g := (jcA m 16 (oR ai) (oR pa) [(.ref ai), (.ref ai)])) rfl rfl (dd 10 rfl)
 refine ja st4 ?_
 obtain ⟨T5, X5, e5, st5⟩ := getF X4 hx hZ hown (host := "") (Or.inl ow531) (Via.of ow61) e4 f3_6 (g := (jcA m 19 (oR ai) (oR pa) [(.ref pa), (.ref ai)])) rfl rfl (dd 11 rfl)
 refine ja st5 ?_
 obtain ⟨T6, h6, X6, e6, W6, st6⟩ := putF X5 hx hZ hown (host := "") (Or.inl ow532) Via.refl e5 f3_3 ((Ei0.wr W1).wr W3) (Or.inl ow533) ow520 (ty := .int) (by decide) rfl rfl (g := (jcA m 22 (oR ai) (oR pa) [(.int mc), (.ref ai)])) rfl rfl (dd 12 rfl)
 refine ja st6 ?_
 have f6_1 := f3_1.other W6 (Or.inr (jku hw))
 have f6_2 := f3_2.other W6 (Or.inr (jkv hw))
 have f6_3 : Fld Z h6 ai S13' S47' "I" (.int mc) := f3_3.same W6
 have f6_4 := f3_4.other W6 (Or.inr (jkw hw))
 have f6_6 := f3_6.other W6 (Or.inl (Exa.ne ((Ea0.wr W1).wr W3) ((Ei0.wr W1).wr W3) (by decide)))
 have N6 := Fr.snoc X6 N3 g_ai
 have Z6 : n0 ≤ h6.size := Nat.le_trans Z3 (Keep.of_wr W6).1
 have K6 : Keep h0 h6 [ai] := K3.wr W6 (Or.inl (List.mem_of_getElem? (i := 0) rfl))
 refine jaa X6 hx Bd hPf (by decide) (by decide) (dd 13 rfl) ?_
 rw [e6]
 exact ⟨rfl, N6, K6, f6_1, f6_2, f6_3, f6_4⟩
abbrev jjf (m : MethodId) (pc : Nat) (a0 : Slot) (S : List Value) : JFrame := mkF m pc #[a0] S
theorem oD38_55j : oDec jdk_38_method_55_code [(0, .new 267, 3), (3, .dup, 1), (4, .aload_n 0, 1), (5, .invokespecial 269, 3), (8, .areturn, 1)] := by decide +kernel
theorem jaQ : parseMethodDescriptor "(Ljava/util/ArrayList;)V" = some ⟨[(.object "java/util/ArrayList")], none⟩ := by decide +kernel
def jjg (Z : State) (pa : Addr) (mc : Int32) (h0 : Heap) (n0 : Nat) (v : Option Value) (h : Heap) (L : List Loc) : Prop := ∃ ai : Addr, v = some (.ref ai) ∧ Fr n0 L ∧ Keep h0 h [] ∧ h0.size ≤ ai ∧ Exa Z h ai S13' ∧ Fld Z h ai S13' "this$0" S38' (.ref pa) ∧ Fld Z h ai S13' S20' "I" (.int 0)
theorem jhG (l : Launch) (Z : State) (a0 : Array Value) (hw : oH a0 Z) (ws : List Jvm.Cond) (pa : Addr) (mc : Int32) (h0 : Heap) (n0 : Nat) (Z0 : n0 ≤ h0.size) (Ea0 : Exa Z h0 pa S3') (Fm0 : Fld Z h0 pa S19' S12' "I" (.int mc)) :
  ji l Z (⟨S3', "iterator", "()Ljava/util/Iterator;"⟩ : MethodName) jdk_38_method_55_code 1 (some (.object "java/util/Iterator")) ws ({ frames := 2, cells := 1, slots := 4, locals := 26 } : Room) #[(.ref pa)] h0 (jjg Z pa mc h0 n0) := by
 refine jb (plainFor_of_name jf) (fun m => jr m pa) ?_
 intro p e s m below meth c s₁ Bd hx hby hml hown hZ X0 e0 Pf hPf
 have N0 := Fr.nil n0
 have dd := oD38_55j.hb hby
 have ow519 := ow hw 519 rfl
 have ow520 := ow hw 520 rfl
 have ow521 := ow hw 521 rfl
 have ow522 := ow hw 522 rfl
 have ow523 := ow hw 523 rfl
 have ow525 := ow hw 525 rfl
 have ow527 := ow hw 527 rfl
 have ow530 := ow hw 530 rfl
 have ow533 := ow hw 533 rfl
 have ow541 := ow hw 541 rfl
 obtain ⟨T1, h1, X1, e1, E1, A1, D1, -, st1⟩ := newO X0 hx hZ hown ow519 ow520 ow521 e0 (g := (jjf m 0 (oR pa) [])) rfl (dd 0 rfl) (by decide) (by decide)
 obtain ⟨b1, g1⟩ : ∃ z, z = h0.size := ⟨_, rfl⟩
 rw [← g1] at A1 D1 st1
 refine ja st1 ?_
 have g_b1 : n0 ≤ b1 := Nat.le_trans Z0 (Nat.le_of_eq g1.symm)
 have Z1 : n0 ≤ h1.size := Nat.le_trans Z0 E1.1
 have sz_b1 : h0.size ≤ b1 := Nat.le_trans (Keep.refl h0 []).1 (Nat.le_of_eq g1.symm)
 have K1 : Keep h0 h1 [] := (Keep.refl h0 []).ext E1
 have F1_this_0 : Fld Z h1 b1 S13' "this$0" S38' .null := D1 (Or.inr ow527) (ty := (.object S3')) (by decide)
 have F1_lastRet : Fld Z h1 b1 S13' S46' "I" (.int 0) := D1 (Or.inl ow530) (ty := .int) (by decide)
 have F1_expectedModCount : Fld Z h1 b1 S13' S47' "I" (.int 0) := D1 (Or.inl ow533) (ty := .int) (by decide)
 have F1_cursor : Fld Z h1 b1 S13' S20' "I" (.int 0) := D1 (Or.inl ow541) (ty := .int) (by decide)
 refine ja (A := oW p e below T1 (jjf m 5 (oR pa) [(.ref pa), (.ref b1), (.ref b1)])) (fun t k => by
  refine XS.dup X1.here hx rfl (dd 1 rfl) rfl rfl ?_
  refine XS.aloadN X1.here hx rfl (dd 2 rfl) rfl rfl ?_
  exact k) ?_
 obtain ⟨_, T2, L2, X2, hQ2, st2⟩ := jaF X1 hx hZ hown ow522 ow523 ow525 ow521 (jhF l Z a0 hw [] b1 pa mc h1 n0 Z1 A1 g_b1 F1_this_0 F1_lastRet F1_expectedModCount F1_cursor (Ea0.ext E1) (Fm0.ext E1)) e1 rfl (by decide) (g := (jjf m 5 (oR pa) [(.ref pa), (.ref b1), (.ref b1)])) rfl (by rw [hml]; rfl) (rest := [(.ref b1)]) rfl (lenOf jaQ rfl) rfl (W := 1) (Nat.le_of_eq rfl) (dd 3 rfl) (by decide)
 obtain ⟨rfl, N2q, K2q, p2_0, p2_1, p2_2, p2_3⟩ := hQ2
 have N2 := Fr.app N0 N2q
 have f2_1 := (Fm0.ext E1).keep K2q (ninS (Exa.ne (Ea0.ext E1) A1 (by decide)) nin0)
 have Z2 : n0 ≤ T2.heap.size := Nat.le_trans Z1 K2q.1
 have K2 : Keep h0 T2.heap [] := K1.trans K2q (allS (Or.inr sz_b1) all0)
 refine ja st2 ?_
 refine jE X2 hx Bd hPf (by decide) (by decide) rfl rfl rfl (dd 4 rfl) ?_
 exact ⟨b1, rfl, N2, K2, sz_b1, (A1.keep K2q), p2_0, p2_3⟩
abbrev jdM (m : MethodId) (pc : Nat) (a0 : Slot) (S : List Value) : JFrame := mkF m pc #[a0] S
theorem oD49_2j : oDec jdk_49_method_2_code [(0, .aload_n 0, 1), (1, .getfield 25, 3), (4, .aload_n 0, 1), (5, .getfield 1, 3), (8, .getfield 28, 3), (11, .if_icmp .eq 7, 3), (14, .iconst 1, 1), (15, .goto 4, 3), (18, .iconst 0, 1), (19, .ireturn, 1)] := by decide +kernel
def jjh (Z : State) (ai : Addr) (pa : Addr) (h0 : Heap) (n0 : Nat) (v : Option Value) (h : Heap) (L : List Loc) : Prop := v = some (.int 0) ∧ Fr n0 L ∧ h = h0
theorem jhH (l : Launch) (Z : State) (a0 : Array Value) (hw : oH a0 Z) (ws : List Jvm.Cond) (ai : Addr) (pa : Addr) (h0 : Heap) (n0 : Nat) (Z0 : n0 ≤ h0.size) (Fi0 : Fld Z h0 ai S13' "this$0" S38' (.ref pa)) (Fi3 : Fld Z h0 ai S13' S20' "I" (.int 0)) (Fs0 : Fld Z h0 pa S3' S8' "I" (.int 0)) :
  ji l Z (⟨S13', "hasNext", "()Z"⟩ : MethodName) jdk_49_method_2_code 1 (some .boolean) ws ({ frames := 0, cells := 0, slots := 0, locals := 0 } : Room) #[(.ref ai)] h0 (jjh Z ai pa h0 n0) := by
 refine jb (plainFor_of_name jaC) (fun m => jr m ai) ?_
 intro p e s m below meth c s₁ Bd hx hby hml hown hZ X0 e0 Pf hPf
 have N0 := Fr.nil n0
 have dd := oD49_2j.hb hby
 have ow526 := ow hw 526 rfl
 have ow540 := ow hw 540 rfl
 have ow542 := ow hw 542 rfl
 refine ja (A := oW p e below s₁ (jdM m 1 (oR ai) [(.ref ai)])) (fun t k => by
  refine XS.aloadN X0.here hx rfl (dd 0 rfl) rfl rfl ?_
  exact k) ?_
 obtain ⟨T1, X1, e1, st1⟩ := getF X0 hx hZ hown (host := "") (Or.inl ow540) Via.refl e0 Fi3 (g := (jdM m 1 (oR ai) [(.ref ai)])) rfl rfl (dd 1 rfl)
 refine ja st1 ?_
 refine ja (A := oW p e below T1 (jdM m 5 (oR ai) [(.ref ai), (.int 0)])) (fun t k => by
  refine XS.aloadN X1.here hx rfl (dd 2 rfl) rfl rfl ?_
  exact k) ?_
 obtain ⟨T2, X2, e2, st2⟩ := getF X1 hx hZ hown (host := "") (Or.inl ow526) Via.refl e1 Fi0 (g := (jdM m 5 (oR ai) [(.ref ai), (.int 0)])) rfl rfl (dd 3 rfl)
 refine ja st2 ?_
 obtain ⟨T3, X3, e3, st3⟩ := getF X2 hx hZ hown (Or.inr ow542) Via.refl e2 Fs0 (g := (jdM m 8 (oR ai) [(.ref pa), (.int 0)])) rfl rfl (dd 4 rfl)
 refine ja st3 ?_
 refine ja (A := oW p e below T3 (jdM m 19 (oR ai) [(.int 0)])) (fun t k => by
  refine XS.icmpYes X3.here hx rfl (pc0 := 11) (pc' := 18) rfl (dd 5 rfl) rfl (teq (by decide : (0 : Int32) = (0 : Int32))).1 (by decide) (by decide) ?_
  refine XS.iconst X3.here hx rfl (dd 8 rfl) ?_
  exact k) ?_
 refine jaw X3 hx Bd (by simp) hPf (by decide) (by decide) (dd 9 rfl) ?_
 rw [e3]
 exact ⟨rfl, N0, rfl⟩
abbrev jfX (m : MethodId) (pc : Nat) (a0 a1 : Slot) (S : List Value) : JFrame := mkF m pc #[a0, a1] S
theorem oD119_1j : oDec jdk_119_method_1_code [(0, .aload_n 0, 1), (1, .invokespecial 1, 3), (4, .aload_n 1, 1), (5, .ifnonnull 11, 3), (8, .new 7, 3), (11, .dup, 1), (12, .invokespecial 9, 3), (15, .athrow, 1), (16, .aload_n 0, 1), (17, .aload_n 1, 1), (18, .putfield 10, 3), (21, .return_, 1)] := by decide +kernel
theorem jkx {a0 : Array Value} {Z : State} (hw : oH a0 Z) : jc Z S34' "list" S14' ≠ jc Z S39' "c" S44' := jg (C := S45') (Or.inr (ow hw 581 rfl)) (Or.inr (ow hw 579 rfl)) (by decide) rfl rfl
def jji (Z : State) (ul : Addr) (pa : Addr)  (h0 : Heap) (n0 : Nat) (v : Option Value) (h : Heap) (L : List Loc) : Prop := v = none ∧ Fr n0 L ∧ Keep h0 h [ul] ∧ Fld Z h ul S39' "c" S44' (.ref pa) ∧ Fld Z h ul S34' "list" S14' .null
theorem jaj : plainName "java/util/Collections$UnmodifiableCollection" = true := by first | (simp [plainName, overriddenIn]; done) | decide +kernel
theorem jhI (l : Launch) (Z : State) (a0 : Array Value) (hw : oH a0 Z) (ws : List Jvm.Cond) (ul : Addr) (pa : Addr)  (h0 : Heap) (n0 : Nat) (Z0 : n0 ≤ h0.size) (Eu0 : Exa Z h0 ul S45') (g_ul : n0 ≤ ul) (Fu0 : Fld Z h0 ul S39' "c" S44' .null) (Fu1 : Fld Z h0 ul S34' "list" S14' .null) :
  ji l Z (⟨S39', S27', "(Ljava/util/Collection;)V"⟩ : MethodName) jdk_119_method_1_code 2 none ws ({ frames := 1, cells := 0, slots := 0, locals := 12 } : Room) #[(.ref ul), (.ref pa)] h0 (jji Z ul pa h0 n0) := by
 refine jb (plainFor_of_name jaj) (fun m => jar m ul pa) ?_
 intro p e s m below meth c s₁ Bd hx hby hml hown hZ X0 e0 Pf hPf
 have N0 := Fr.nil n0
 have dd := oD119_1j.hb hby
 have hnm := (name_of_methodNamed Bd.named Bd.method).1
 have ow20 := ow hw 20 rfl
 have ow21 := ow hw 21 rfl
 have ow560 := ow hw 560 rfl
 have ow577 := ow hw 577 rfl
 have ow578 := ow hw 578 rfl
 have ow579 := ow hw 579 rfl
 refine ja (A := oW p e below s₁ (jfX m 1 (oR ul) (oR pa) [(.ref ul)])) (fun t k => by
  refine XS.aloadN X0.here hx rfl (dd 0 rfl) rfl rfl ?_
  exact k) ?_
 obtain ⟨T1, X1, e1, st1⟩ := initO X0 hx hZ hown ow577 ow20 ow21 e0 (g := (jfX m 1 (oR ul) (oR pa) [(.ref ul)])) rfl (by rw [hml]; rfl) rfl (dd 1 rfl) (by decide) (W := 0) (by show 2 * 0 + _ ≤ _; exact Nat.le_of_eq rfl) (by decide)
 refine ja st1 ?_
 refine ja (A := oW p e below T1 (jfX m 18 (oR ul) (oR pa) [(.ref pa), (.ref ul)])) (fun t k => by
  refine XS.aloadN X1.here hx rfl (dd 2 rfl) rfl rfl ?_
  refine XS.ifnonnullYes X1.here hx rfl (pc0 := 5) (pc' := 16) rfl (dd 3 rfl) rfl (by decide) (by decide) ?_
  refine XS.aloadN X1.here hx rfl (dd 8 rfl) rfl rfl ?_
  refine XS.aloadN X1.here hx rfl (dd 9 rfl) rfl rfl ?_
  exact k) ?_
 obtain ⟨T2, h2, X2, e2, W2, st2⟩ := putF X1 hx hZ hown (host := "") (Or.inl ow578) Via.refl e1 Fu0 Eu0 (Or.inr ⟨ow579, rfl, hnm⟩) ow560 (ty := (.object "java/util/Collection")) (by decide) rfl rfl (g := (jfX m 18 (oR ul) (oR pa) [(.ref pa), (.ref ul)])) rfl rfl (dd 10 rfl)
 refine ja st2 ?_
 have f2_1 : Fld Z h2 ul S39' "c" S44' (.ref pa) := Fu0.same W2
 have f2_2 := Fu1.other W2 (Or.inr (jkx hw))
 have N2 := Fr.snoc X2 N0 g_ul
 have Z2 : n0 ≤ h2.size := Nat.le_trans Z0 (Keep.of_wr W2).1
 have K2 : Keep h0 h2 [ul] := (Keep.refl h0 [ul]).wr W2 (Or.inl (List.mem_of_getElem? (i := 0) rfl))
 refine jaa X2 hx Bd hPf (by decide) (by decide) (dd 11 rfl) ?_
 rw [e2]
 exact ⟨rfl, N2, K2, f2_1, f2_2⟩
abbrev jfY (m : MethodId) (pc : Nat) (a0 a1 : Slot) (S : List Value) : JFrame := mkF m pc #[a0, a1] S
theorem oD120_1j : oDec jdk_120_method_1_code [(0, .aload_n 0, 1), (1, .aload_n 1, 1), (2, .invokespecial 1, 3), (5, .aload_n 0, 1), (6, .aload_n 1, 1), (7, .putfield 7, 3), (10, .return_, 1)] := by decide +kernel
theorem jaN : parseMethodDescriptor "(Ljava/util/Collection;)V" = some ⟨[(.object "java/util/Collection")], none⟩ := by decide +kernel
theorem jky {a0 : Array Value} {Z : State} (hw : oH a0 Z) : jc Z S39' "c" S44' ≠ jc Z S34' "list" S14' := jg (C := S45') (Or.inr (ow hw 579 rfl)) (Or.inr (ow hw 581 rfl)) (by decide) rfl rfl
def jjj (Z : State) (ul : Addr) (pa : Addr)  (h0 : Heap) (n0 : Nat) (v : Option Value) (h : Heap) (L : List Loc) : Prop := v = none ∧ Fr n0 L ∧ Keep h0 h [ul] ∧ Fld Z h ul S39' "c" S44' (.ref pa) ∧ Fld Z h ul S34' "list" S14' (.ref pa)
theorem jaA : plainName "java/util/Collections$UnmodifiableList" = true := by first | (simp [plainName, overriddenIn]; done) | decide +kernel
theorem jhJ (l : Launch) (Z : State) (a0 : Array Value) (hw : oH a0 Z) (ws : List Jvm.Cond) (ul : Addr) (pa : Addr)  (h0 : Heap) (n0 : Nat) (Z0 : n0 ≤ h0.size) (Eu0 : Exa Z h0 ul S45') (g_ul : n0 ≤ ul) (Fu0 : Fld Z h0 ul S39' "c" S44' .null) (Fu1 : Fld Z h0 ul S34' "list" S14' .null) :
  ji l Z (⟨S34', S27', "(Ljava/util/List;)V"⟩ : MethodName) jdk_120_method_1_code 2 none ws ({ frames := 2, cells := 0, slots := 0, locals := 25 } : Room) #[(.ref ul), (.ref pa)] h0 (jjj Z ul pa h0 n0) := by
 refine jb (plainFor_of_name jaA) (fun m => jar m ul pa) ?_
 intro p e s m below meth c s₁ Bd hx hby hml hown hZ X0 e0 Pf hPf
 have N0 := Fr.nil n0
 have dd := oD120_1j.hb hby
 have hnm := (name_of_methodNamed Bd.named Bd.method).1
 have ow560 := ow hw 560 rfl
 have ow571 := ow hw 571 rfl
 have ow572 := ow hw 572 rfl
 have ow575 := ow hw 575 rfl
 have ow576 := ow hw 576 rfl
 have ow580 := ow hw 580 rfl
 have ow581 := ow hw 581 rfl
 refine ja (A := oW p e below s₁ (jfY m 2 (oR ul) (oR pa) [(.ref pa), (.ref ul)])) (fun t k => by
  refine XS.aloadN X0.here hx rfl (dd 0 rfl) rfl rfl ?_
  refine XS.aloadN X0.here hx rfl (dd 1 rfl) rfl rfl ?_
  exact k) ?_
 obtain ⟨_, T1, L1, X1, hQ1, st1⟩ := jaF X0 hx hZ hown ow571 ow572 ow576 ow575 (jhI l Z a0 hw [] ul pa h0 n0 Z0 Eu0 g_ul Fu0 Fu1) e0 rfl (by decide) (g := (jfY m 2 (oR ul) (oR pa) [(.ref pa), (.ref ul)])) rfl (by rw [hml]; rfl) (rest := []) rfl (lenOf jaN rfl) rfl (W := 0) (Nat.le_of_eq rfl) (dd 2 rfl) (by decide)
 obtain ⟨rfl, N1q, K1q, p1_0, p1_1⟩ := hQ1
 have N1 := Fr.app N0 N1q
 have Z1 : n0 ≤ T1.heap.size := Nat.le_trans Z0 K1q.1
 have K1 : Keep h0 T1.heap [ul] := (Keep.refl h0 [ul]).trans K1q (allS (Or.inl (List.mem_of_getElem? (i := 0) rfl)) all0)
 refine ja st1 ?_
 refine ja (A := oW p e below T1 (jfY m 7 (oR ul) (oR pa) [(.ref pa), (.ref ul)])) (fun t k => by
  refine XS.aloadN X1.here hx rfl (dd 3 rfl) rfl rfl ?_
  refine XS.aloadN X1.here hx rfl (dd 4 rfl) rfl rfl ?_
  exact k) ?_
 obtain ⟨T2, h2, X2, e2, W2, st2⟩ := putF X1 hx hZ hown (host := "") (Or.inl ow580) Via.refl rfl p1_1 (Eu0.keep K1q) (Or.inr ⟨ow581, rfl, hnm⟩) ow560 (ty := (.object S24')) (by decide) rfl rfl (g := (jfY m 7 (oR ul) (oR pa) [(.ref pa), (.ref ul)])) rfl rfl (dd 5 rfl)
 refine ja st2 ?_
 have f2_1 := p1_0.other W2 (Or.inr (jky hw))
 have f2_2 : Fld Z h2 ul S34' "list" S14' (.ref pa) := p1_1.same W2
 have N2 := Fr.snoc X2 N1 g_ul
 have Z2 : n0 ≤ h2.size := Nat.le_trans Z1 (Keep.of_wr W2).1
 have K2 : Keep h0 h2 [ul] := K1.wr W2 (Or.inl (List.mem_of_getElem? (i := 0) rfl))
 refine jaa X2 hx Bd hPf (by decide) (by decide) (dd 6 rfl) ?_
 rw [e2]
 exact ⟨rfl, N2, K2, f2_1, f2_2⟩
abbrev jkS (m : MethodId) (pc : Nat) (a0 a1 : Slot) (S : List Value) : JFrame := mkF m pc #[a0, a1] S
theorem oD121_1j : oDec jdk_121_method_1_code [(0, .aload_n 0, 1), (1, .aload_n 1, 1), (2, .invokespecial 1, 3), (5, .return_, 1)] := by decide +kernel
theorem jaB : parseMethodDescriptor "(Ljava/util/List;)V" = some ⟨[(.object "java/util/List")], none⟩ := by decide +kernel
def jjk (Z : State) (ul : Addr) (pa : Addr)  (h0 : Heap) (n0 : Nat) (v : Option Value) (h : Heap) (L : List Loc) : Prop := v = none ∧ Fr n0 L ∧ Keep h0 h [ul] ∧ Fld Z h ul S39' "c" S44' (.ref pa) ∧ Fld Z h ul S34' "list" S14' (.ref pa)
theorem jah : plainName "java/util/Collections$UnmodifiableRandomAccessList" = true := by first | (simp [plainName, overriddenIn]; done) | decide +kernel
theorem jhK (l : Launch) (Z : State) (a0 : Array Value) (hw : oH a0 Z) (ws : List Jvm.Cond) (ul : Addr) (pa : Addr)  (h0 : Heap) (n0 : Nat) (Z0 : n0 ≤ h0.size) (Eu0 : Exa Z h0 ul S45') (g_ul : n0 ≤ ul) (Fu0 : Fld Z h0 ul S39' "c" S44' .null) (Fu1 : Fld Z h0 ul S34' "list" S14' .null) :
  ji l Z (⟨S45', S27', "(Ljava/util/List;)V"⟩ : MethodName) jdk_121_method_1_code 2 none ws ({ frames := 3, cells := 0, slots := 0, locals := 38 } : Room) #[(.ref ul), (.ref pa)] h0 (jjk Z ul pa h0 n0) := by
 refine jb (plainFor_of_name jah) (fun m => jar m ul pa) ?_
 intro p e s m below meth c s₁ Bd hx hby hml hown hZ X0 e0 Pf hPf
 have N0 := Fr.nil n0
 have dd := oD121_1j.hb hby
 have ow565 := ow hw 565 rfl
 have ow566 := ow hw 566 rfl
 have ow569 := ow hw 569 rfl
 have ow570 := ow hw 570 rfl
 refine ja (A := oW p e below s₁ (jkS m 2 (oR ul) (oR pa) [(.ref pa), (.ref ul)])) (fun t k => by
  refine XS.aloadN X0.here hx rfl (dd 0 rfl) rfl rfl ?_
  refine XS.aloadN X0.here hx rfl (dd 1 rfl) rfl rfl ?_
  exact k) ?_
 obtain ⟨_, T1, L1, X1, hQ1, st1⟩ := jaF X0 hx hZ hown ow565 ow566 ow570 ow569 (jhJ l Z a0 hw [] ul pa h0 n0 Z0 Eu0 g_ul Fu0 Fu1) e0 rfl (by decide) (g := (jkS m 2 (oR ul) (oR pa) [(.ref pa), (.ref ul)])) rfl (by rw [hml]; rfl) (rest := []) rfl (lenOf jaB rfl) rfl (W := 0) (Nat.le_of_eq rfl) (dd 2 rfl) (by decide)
 obtain ⟨rfl, N1q, K1q, p1_0, p1_1⟩ := hQ1
 have N1 := Fr.app N0 N1q
 have Z1 : n0 ≤ T1.heap.size := Nat.le_trans Z0 K1q.1
 have K1 : Keep h0 T1.heap [ul] := (Keep.refl h0 [ul]).trans K1q (allS (Or.inl (List.mem_of_getElem? (i := 0) rfl)) all0)
 refine ja st1 ?_
 refine jaa X1 hx Bd hPf (by decide) (by decide) (dd 3 rfl) ?_
 exact ⟨rfl, N1, K1, p1_0, p1_1⟩
abbrev jbD (m : MethodId) (pc : Nat) (a0 : Slot) (S : List Value) : JFrame := mkF m pc #[a0] S
theorem oD79_35j : oDec jdk_79_method_35_code [(0, .aload_n 0, 1), (1, .invokeinterface 211 1, 5), (6, .ldc 212, 2), (8, .if_acmp .eq 14, 3), (11, .aload_n 0, 1), (12, .invokeinterface 214 1, 5), (17, .ldc 215, 2), (19, .if_acmp .ne 5, 3), (22, .aload_n 0, 1), (23, .areturn, 1), (24, .aload_n 0, 1), (25, .instanceof 13, 3), (28, .ifCond .eq 14, 3), (31, .new 215, 3), (34, .dup, 1), (35, .aload_n 0, 1), (36, .invokespecial 217, 3), (39, .goto 11, 3), (42, .new 212, 3), (45, .dup, 1), (46, .aload_n 0, 1), (47, .invokespecial 219, 3), (50, .areturn, 1)] := by decide +kernel
def jjl (Z : State) (pa : Addr) (ma mu mr : Addr) (h0 : Heap) (n0 : Nat) (v : Option Value) (h : Heap) (L : List Loc) : Prop := ∃ ul : Addr, v = some (.ref ul) ∧ Fr n0 L ∧ Keep h0 h [] ∧ h0.size ≤ ul
theorem jbv : plainName "java/util/Collections" = true := by first | (simp [plainName, overriddenIn]; done) | decide +kernel
theorem jhL (l : Launch) (Z : State) (a0 : Array Value) (hw : oH a0 Z) (ws : List Jvm.Cond) (pa : Addr) (ma mu mr : Addr) (h0 : Heap) (n0 : Nat) (Z0 : n0 ≤ h0.size) (hma : Mir Z S3' ma) (hmu : Mir Z S34' mu) (hmr : Mir Z S45' mr) (Ea0 : Exa Z h0 pa S3') :
  ji l Z (⟨"java/util/Collections", "unmodifiableList", "(Ljava/util/List;)Ljava/util/List;"⟩ : MethodName) jdk_79_method_35_code 1 (some (.object S24')) ws ({ frames := 4, cells := 1, slots := 2, locals := 52 } : Room) #[(.ref pa)] h0 (jjl Z pa ma mu mr h0 n0) := by
 refine jb (plainFor_of_name jbv) (fun m => jr m pa) ?_
 intro p e s m below meth c s₁ Bd hx hby hml hown hZ X0 e0 Pf hPf
 have N0 := Fr.nil n0
 have dd := oD79_35j.hb hby
 have ow201 := ow hw 201 rfl
 have ow202 := ow hw 202 rfl
 have ow204 := ow hw 204 rfl
 have ow405 := ow hw 405 rfl
 have ow547 := ow hw 547 rfl
 have ow548 := ow hw 548 rfl
 have ow549 := ow hw 549 rfl
 have ow550 := ow hw 550 rfl
 have ow551 := ow hw 551 rfl
 have ow553 := ow hw 553 rfl
 have ow555 := ow hw 555 rfl
 have ow556 := ow hw 556 rfl
 have ow558 := ow hw 558 rfl
 have ow559 := ow hw 559 rfl
 have ow560 := ow hw 560 rfl
 have ow561 := ow hw 561 rfl
 have ow562 := ow hw 562 rfl
 have ow563 := ow hw 563 rfl
 have ow564 := ow hw 564 rfl
 have ow579 := ow hw 579 rfl
 have ow581 := ow hw 581 rfl
 refine ja (A := oW p e below s₁ (jbD m 1 (oR pa) [(.ref pa)])) (fun t k => by
  refine XS.aloadN X0.here hx rfl (dd 0 rfl) rfl rfl ?_
  exact k) ?_
 obtain ⟨T1, X1, e1, st1⟩ := jeh (xi := M18') X0 hx hZ hown ow547 ow201 (Jvm.Free.ULB.iface_rides hZ.alike ow548) ow549 ow202 ow550 ow551 ow405 ow204 (by decide) (by decide) rfl rfl e0 Ea0 hma (g := (jbD m 1 (oR pa) [(.ref pa)])) rfl (by rw [hml]; rfl) rfl (dd 1 rfl) (by decide) (W := 0) (by show 2 * 0 + _ ≤ _; exact Nat.le_of_eq rfl) (by decide)
 refine ja st1 ?_
 obtain ⟨T2, X2, e2, st2⟩ := jcK X1 hx hZ hown ow553 e1 hmu (g := (jbD m 6 (oR pa) [(.ref ma)])) rfl (dd 2 rfl)
 refine ja st2 ?_
 refine ja (A := oW p e below T2 (jbD m 12 (oR pa) [(.ref pa)])) (fun t k => by
  refine Jvm.RoadKit.acmp (g := (jbD m 8 (oR pa) [(.ref mu), (.ref ma)])) X2 hx rfl rfl rfl (pc0 := 8) (pc' := 11) (same := false) rfl (dd 3 rfl) rfl (decide_eq_false fun q => (Mir.ne hma hmu (by decide)) (Value.ref.inj q)) (by decide) (by decide) ?_
  refine XS.aloadN X2.here hx rfl (dd 4 rfl) rfl rfl ?_
  exact k) ?_
 obtain ⟨T3, X3, e3, st3⟩ := jeh (xi := M18') X2 hx hZ hown ow555 ow201 (Jvm.Free.ULB.iface_rides hZ.alike ow548) ow549 ow202 ow550 ow551 ow405 ow204 (by decide) (by decide) rfl rfl e2 Ea0 hma (g := (jbD m 12 (oR pa) [(.ref pa)])) rfl (by rw [hml]; rfl) rfl (dd 5 rfl) (by decide) (W := 0) (by show 2 * 0 + _ ≤ _; exact Nat.le_of_eq rfl) (by decide)
 refine ja st3 ?_
 obtain ⟨T4, X4, e4, st4⟩ := jcK X3 hx hZ hown ow556 e3 hmr (g := (jbD m 17 (oR pa) [(.ref ma)])) rfl (dd 6 rfl)
 refine ja st4 ?_
 refine ja (A := oW p e below T4 (jbD m 25 (oR pa) [(.ref pa)])) (fun t k => by
  refine Jvm.RoadKit.acmp (g := (jbD m 19 (oR pa) [(.ref mr), (.ref ma)])) X4 hx rfl rfl rfl (pc0 := 19) (pc' := 24) (same := false) rfl (dd 7 rfl) rfl (decide_eq_false fun q => (Mir.ne hma hmr (by decide)) (Value.ref.inj q)) (by decide) (by decide) ?_
  refine XS.aloadN X4.here hx rfl (dd 10 rfl) rfl rfl ?_
  exact k) ?_
 obtain ⟨T5, X5, e5, st5⟩ := instY X4 hx hZ hown ow558 e4 (Ins.of_exa Ea0 ow559) (g := (jbD m 25 (oR pa) [(.ref pa)])) rfl rfl (dd 11 rfl)
 refine ja st5 ?_
 refine ja (A := oW p e below T5 (jbD m 31 (oR pa) [])) (fun t k => by
  refine XS.ifNo X5.here hx rfl (dd 12 rfl) rfl ((if0 _ _).trans (feq (by decide : ¬ ((1 : Int32) = (0 : Int32)))).1) ?_
  exact k) ?_
 obtain ⟨T6, h6, X6, e6, E6, A6, D6, -, st6⟩ := newO X5 hx hZ hown ow556 ow560 ow561 e5 (g := (jbD m 31 (oR pa) [])) rfl (dd 13 rfl) (by decide) (by decide)
 obtain ⟨b6, g6⟩ : ∃ z, z = h0.size := ⟨_, rfl⟩
 rw [← g6] at A6 D6 st6
 refine ja st6 ?_
 have g_b6 : n0 ≤ b6 := Nat.le_trans Z0 (Nat.le_of_eq g6.symm)
 have Z6 : n0 ≤ h6.size := Nat.le_trans Z0 E6.1
 have sz_b6 : h0.size ≤ b6 := Nat.le_trans (Keep.refl h0 []).1 (Nat.le_of_eq g6.symm)
 have K6 : Keep h0 h6 [] := (Keep.refl h0 []).ext E6
 have F6_c : Fld Z h6 b6 S39' "c" S44' .null := D6 (Or.inr ow579) (ty := (.object "java/util/Collection")) (by decide)
 have F6_list : Fld Z h6 b6 S34' "list" S14' .null := D6 (Or.inr ow581) (ty := (.object S24')) (by decide)
 refine ja (A := oW p e below T6 (jbD m 36 (oR pa) [(.ref pa), (.ref b6), (.ref b6)])) (fun t k => by
  refine XS.dup X6.here hx rfl (dd 14 rfl) rfl rfl ?_
  refine XS.aloadN X6.here hx rfl (dd 15 rfl) rfl rfl ?_
  exact k) ?_
 obtain ⟨_, T7, L7, X7, hQ7, st7⟩ := jaF X6 hx hZ hown ow562 ow563 ow564 ow561 (jhK l Z a0 hw [] b6 pa h6 n0 Z6 A6 g_b6 F6_c F6_list) e6 rfl (by decide) (g := (jbD m 36 (oR pa) [(.ref pa), (.ref b6), (.ref b6)])) rfl (by rw [hml]; rfl) (rest := [(.ref b6)]) rfl (lenOf jaB rfl) rfl (W := 1) (Nat.le_of_eq rfl) (dd 16 rfl) (by decide)
 obtain ⟨rfl, N7q, K7q, p7_0, p7_1⟩ := hQ7
 have N7 := Fr.app N0 N7q
 have Z7 : n0 ≤ T7.heap.size := Nat.le_trans Z6 K7q.1
 have K7 : Keep h0 T7.heap [] := K6.trans K7q (allS (Or.inr sz_b6) all0)
 refine ja st7 ?_
 refine ja (A := oW p e below T7 (jbD m 50 (oR pa) [(.ref b6)])) (fun t k => by
  refine XS.goto X7.here hx rfl (pc0 := 39) (pc' := 50) rfl (dd 17 rfl) (by decide) (by decide) ?_
  exact k) ?_
 refine jE X7 hx Bd hPf (by decide) (by decide) rfl rfl rfl (dd 22 rfl) ?_
 exact ⟨b6, rfl, N7, K7, sz_b6⟩
theorem jjm {a0 : Array Value} {Z : State} (hw : oH a0 Z) : ∀ a ∈ Bundle.stringAtoms, a.before a0 Z = true := fun d hd => by
 simp only [Bundle.stringAtoms, List.mem_cons, List.not_mem_nil, or_false] at hd
 rcases hd with rfl | rfl | rfl | rfl | rfl | rfl | rfl
 · exact (hw _ (List.mem_of_getElem? (i := 33) rfl))
 · exact (hw _ (List.mem_of_getElem? (i := 41) rfl))
 · exact (hw _ (List.mem_of_getElem? (i := 45) rfl))
 · exact (hw _ (List.mem_of_getElem? (i := 52) rfl))
 · exact (hw _ (List.mem_of_getElem? (i := 54) rfl))
 · exact (hw _ (List.mem_of_getElem? (i := 99) rfl))
 · exact (hw _ (List.mem_of_getElem? (i := 100) rfl))
abbrev jbM (m : MethodId) (pc : Nat) (a0 a1 a2 : Slot) (S : List Value) : JFrame := mkF m pc #[a0, a1, a2] S
theorem oD45_1p : oDec prog_45_method_1_code [(0, .aload_n 0, 1), (1, .invokespecial 1, 3), (4, .aload_n 1, 1), (5, .ldc 7, 2), (7, .invokestatic 9, 3), (10, .pop, 1), (11, .aload_n 2, 1), (12, .ldc 15, 2), (14, .invokestatic 9, 3), (17, .pop, 1), (18, .aload_n 0, 1), (19, .aload_n 1, 1), (20, .putfield 17, 3), (23, .aload_n 0, 1), (24, .aload_n 2, 1), (25, .putfield 22, 3), (28, .return_, 1)] := by decide +kernel
theorem jo : parseMethodDescriptor "(Ljava/lang/Object;Ljava/lang/String;)Ljava/lang/Object;" = some ⟨[(.object "java/lang/Object"), (.object "java/lang/String")], some (.object "java/lang/Object")⟩ := by decide +kernel
theorem jkz {a0 : Array Value} {Z : State} (hw : oH a0 Z) : jc Z S18' S40' S25' ≠ jc Z S18' "source" S25' := jg (C := S18') (Or.inr (ow hw 109 rfl)) (Or.inr (ow hw 107 rfl)) (by decide) rfl rfl
theorem jkA {a0 : Array Value} {Z : State} (hw : oH a0 Z) : jc Z S18' "source" S25' ≠ jc Z S18' S40' S25' := jg (C := S18') (Or.inr (ow hw 107 rfl)) (Or.inr (ow hw 109 rfl)) (by decide) rfl rfl
theorem jhM (m : MethodId) (x0 : Addr) (x1 : Addr) (x2 : Addr) : entryFrame m #[(.ref x0), (.ref x1), (.ref x2)] 3 = mkF m 0 #[(oR x0), (oR x1), (oR x2)] [] := by first | (simp [entryFrame, mkF, argsToLocals, Value.category]; done) | rfl
def jeA (Z : State) (wp : Addr) (sa : Addr) (da : Addr)  (h0 : Heap) (n0 : Nat) (v : Option Value) (h : Heap) (L : List Loc) : Prop := v = none ∧ Fr n0 L ∧ Keep h0 h [wp] ∧ Fld Z h wp S18' "source" S25' (.ref sa) ∧ Fld Z h wp S18' S40' S25' (.ref da)
theorem jK : plainName "com/example/fimpl/fimpl/device/WirePair" = true := by first | (simp [plainName, overriddenIn]; done) | decide +kernel
theorem jcY (l : Launch) (Z : State) (a0 : Array Value) (hw : ∀ d ∈ tables_1, d.before a0 Z = true) (ws : List Jvm.Cond) (wp : Addr) (sa : Addr) (da : Addr)  (h0 : Heap) (n0 : Nat) (Z0 : n0 ≤ h0.size) (Ew0 : Exa Z h0 wp S18') (g_wp : n0 ≤ wp) (Fw0 : Fld Z h0 wp S18' "source" S25' .null) (Fw1 : Fld Z h0 wp S18' S40' S25' .null) :
  MetFree l M19' (head1 (Jvm.Cond.code M19' prog_45_method_1_code 3 none :: ws) ({ frames := 2, cells := 4, slots := 76, locals := 24 } : Room)) (fun a U => a = #[(.ref wp), (.ref sa), (.ref da)] ∧ Z.Warmed39 U.vm ∧ U.heap = h0) (fun _ _ _ _ _ => True) (fun _ U o U' => ∃ v L, o = .returned v ∧ jeA Z wp sa da h0 n0 v U'.heap L ∧ ReturnedEndW U o U' L ({ frames := 2, cells := 4, slots := 76, locals := 24 } : Room).cells ({ frames := 2, cells := 4, slots := 76, locals := 24 } : Room).slots) := by
 refine MetFree.of_bodySF (plainFor_of_name jK) hisR ?_
 intro p e s m args below meth c s₁ Bd hml0 hP hKq_
 obtain ⟨rfl, hZ, hh⟩ := hP
 have hx := Bd.exec
 have hby := Bd.bytes
 have dd := oD45_1p.hb hby
 have hml : c.maxLocals = 3 := hml0
 have hown : s.vm.findClass S18' = some m.cls := findClass_of_methodNamed Bd.named
 have hnm := (name_of_methodNamed Bd.named Bd.method).1
 have ow87 := ow hw 87 rfl
 have ow92 := ow hw 92 rfl
 have ow93 := ow hw 93 rfl
 have ow95 := ow hw 95 rfl
 have ow96 := ow hw 96 rfl
 have ow98 := ow hw 98 rfl
 have ow101 := ow hw 101 rfl
 have ow102 := ow hw 102 rfl
 have ow103 := ow hw 103 rfl
 have ow104 := ow hw 104 rfl
 have ow105 := ow hw 105 rfl
 have ow106 := ow hw 106 rfl
 have ow107 := ow hw 107 rfl
 have ow108 := ow hw 108 rfl
 have ow109 := ow hw 109 rfl
 have X0 : Stand p l e ({ frames := 2, cells := 4, slots := 76, locals := 24 } : Room) (s.setVm s.vm) m #[(.ref wp), (.ref sa), (.ref da)] below meth c s₁ [] 0 0 := Stand.of_body Bd
 have e0 : s₁.heap = h0 := by rw [← hh, Bd.state]; rfl
 have N0 := Fr.nil n0
 have pre0 : ∀ t, Steps p.tables e below (s₁.setTop (mkF m 0 #[(oR wp), (oR sa), (oR da)] [])) t → Steps p.tables e below (s₁.setTop (entryFrame m #[(.ref wp), (.ref sa), (.ref da)] 3)) t := fun t k => castTop (jhM m wp sa da) k
 refine ja pre0 ?_
 refine jcV ?_
 intro Pf hPf
 have hZ : Z.Warmed39 (s.setVm s.vm).vm := hZ
 have hown : (s.setVm s.vm).vm.findClass S18' = some m.cls := hown
 have Sn0 : s.Since s.vm 0 := (State.WarmedH.refl s).since 0
 have hk0 : 0 ≤ h0.size := Nat.zero_le _
 refine ja (A := oW p e below s₁ (jbM m 1 (oR wp) (oR sa) (oR da) [(.ref wp)])) (fun t k => by
  refine XS.aloadN X0.here hx rfl (dd 0 rfl) rfl rfl ?_
  exact k) ?_
 obtain ⟨_, T1, L1, X1, hQ1, st1⟩ := jaF X0 hx hZ hown ow92 ow93 ow96 ow95 (jeD l Z a0 hw [] wp h0 n0 Z0 ) e0 rfl (by decide) (g := (jbM m 1 (oR wp) (oR sa) (oR da) [(.ref wp)])) rfl (by rw [hml]; rfl) (rest := []) rfl (lenOf jS rfl) rfl (W := 0) (Nat.le_of_eq rfl) (dd 1 rfl) (by decide)
 obtain ⟨rfl, N1q, eh1⟩ := hQ1
 have N1 := Fr.app N0 N1q
 refine ja st1 ?_
 refine ja (A := oW p e below T1 (jbM m 5 (oR wp) (oR sa) (oR da) [(.ref sa)])) (fun t k => by
  refine XS.aloadN X1.here hx rfl (dd 2 rfl) rfl rfl ?_
  exact k) ?_
 obtain ⟨a2, T2, h2, k2, X2, e2, E2, Sn2, hk2, hZ2, hown2, st2⟩ := ldcS X1 hx hZ hown ow98 (jjm hw) eh1 Sn0 hk0 (g := (jbM m 5 (oR wp) (oR sa) (oR da) [(.ref sa)])) rfl (dd 3 rfl) (n := 24) (by decide) (by decide) (by decide) (by decide)
 refine ja st2 ?_
 have Z2 : n0 ≤ h2.size := Nat.le_trans Z0 E2.1
 have K2 : Keep h0 h2 [wp] := (Keep.refl h0 [wp]).ext E2
 obtain ⟨_, T3, L3, X3, hQ3, st3⟩ := jH X2 hx hZ2 hown2 ow101 ow102 ow104 ow103 (jcX l Z a0 hw [] sa a2 h2 n0 Z2 ) e2 (by decide) (g := (jbM m 7 (oR wp) (oR sa) (oR da) [(.ref a2), (.ref sa)])) rfl (by rw [hml]; rfl) (rest := []) rfl (lenOf jo rfl) rfl (W := 0) (Nat.le_of_eq rfl) (dd 4 rfl) (by decide)
 obtain ⟨rfl, N3q, eh3⟩ := hQ3
 have N3 := Fr.app N1 N3q
 refine ja st3 ?_
 refine ja (A := oW p e below T3 (jbM m 12 (oR wp) (oR sa) (oR da) [(.ref da)])) (fun t k => by
  refine XS.pop X3.here hx rfl (dd 5 rfl) rfl rfl ?_
  refine XS.aloadN X3.here hx rfl (dd 6 rfl) rfl rfl ?_
  exact k) ?_
 obtain ⟨a4, T4, h4, k4, X4, e4, E4, Sn4, hk4, hZ4, hown4, st4⟩ := ldcS X3 hx hZ2 hown2 ow105 (jjm hw) eh3 Sn2 hk2 (g := (jbM m 12 (oR wp) (oR sa) (oR da) [(.ref da)])) rfl (dd 7 rfl) (n := 44) (by decide) (by decide) (by decide) (by decide)
 refine ja st4 ?_
 have Z4 : n0 ≤ h4.size := Nat.le_trans Z2 E4.1
 have K4 : Keep h0 h4 [wp] := K2.ext E4
 obtain ⟨_, T5, L5, X5, hQ5, st5⟩ := jH X4 hx hZ4 hown4 ow101 ow102 ow104 ow103 (jcX l Z a0 hw [] da a4 h4 n0 Z4 ) e4 (by decide) (g := (jbM m 14 (oR wp) (oR sa) (oR da) [(.ref a4), (.ref da)])) rfl (by rw [hml]; rfl) (rest := []) rfl (lenOf jo rfl) rfl (W := 0) (Nat.le_of_eq rfl) (dd 8 rfl) (by decide)
 obtain ⟨rfl, N5q, eh5⟩ := hQ5
 have N5 := Fr.app N3 N5q
 refine ja st5 ?_
 refine ja (A := oW p e below T5 (jbM m 20 (oR wp) (oR sa) (oR da) [(.ref sa), (.ref wp)])) (fun t k => by
  refine XS.pop X5.here hx rfl (dd 9 rfl) rfl rfl ?_
  show oW p e below T5 (jbM m 18 (oR wp) (oR sa) (oR da) []) _
  refine XS.aloadN X5.here hx rfl (dd 10 rfl) rfl rfl ?_
  refine XS.aloadN X5.here hx rfl (dd 11 rfl) rfl rfl ?_
  exact k) ?_
 obtain ⟨T6, h6, X6, e6, W6, st6⟩ := putF X5 hx hZ4 hown4 (host := "") (Or.inl ow106) Via.refl eh5 ((Fw0.ext E2).ext E4) ((Ew0.ext E2).ext E4) (Or.inr ⟨ow107, rfl, hnm⟩) ow87 (ty := (.object S2')) (by decide) rfl rfl (g := (jbM m 20 (oR wp) (oR sa) (oR da) [(.ref sa), (.ref wp)])) rfl rfl (dd 12 rfl)
 refine ja st6 ?_
 have f6_1 : Fld Z h6 wp S18' "source" S25' (.ref sa) := ((Fw0.ext E2).ext E4).same W6
 have f6_2 := ((Fw1.ext E2).ext E4).other W6 (Or.inr (jkz hw))
 have N6 := Fr.snoc X6 N5 g_wp
 have hk6 : k4 ≤ h6.size := Nat.le_trans hk4 (Keep.of_wr W6).1
 have Z6 : n0 ≤ h6.size := Nat.le_trans Z4 (Keep.of_wr W6).1
 have K6 : Keep h0 h6 [wp] := K4.wr W6 (Or.inl (List.mem_of_getElem? (i := 0) rfl))
 refine ja (A := oW p e below T6 (jbM m 25 (oR wp) (oR sa) (oR da) [(.ref da), (.ref wp)])) (fun t k => by
  refine XS.aloadN X6.here hx rfl (dd 13 rfl) rfl rfl ?_
  refine XS.aloadN X6.here hx rfl (dd 14 rfl) rfl rfl ?_
  exact k) ?_
 obtain ⟨T7, h7, X7, e7, W7, st7⟩ := putF X6 hx hZ4 hown4 (host := "") (Or.inl ow108) Via.refl e6 f6_2 (((Ew0.ext E2).ext E4).wr W6) (Or.inr ⟨ow109, rfl, hnm⟩) ow87 (ty := (.object S2')) (by decide) rfl rfl (g := (jbM m 25 (oR wp) (oR sa) (oR da) [(.ref da), (.ref wp)])) rfl rfl (dd 15 rfl)
 refine ja st7 ?_
 have f7_1 := f6_1.other W7 (Or.inr (jkA hw))
 have f7_2 : Fld Z h7 wp S18' S40' S25' (.ref da) := f6_2.same W7
 have N7 := Fr.snoc X7 N6 g_wp
 have hk7 : k4 ≤ h7.size := Nat.le_trans hk6 (Keep.of_wr W7).1
 have Z7 : n0 ≤ h7.size := Nat.le_trans Z6 (Keep.of_wr W7).1
 have K7 : Keep h0 h7 [wp] := K6.wr W7 (Or.inl (List.mem_of_getElem? (i := 0) rfl))
 obtain ⟨fs, hr, hrun, hended, hRW⟩ := X7.leaveW Sn4 (by rw [e7]; exact hk7) (v := none) (fun _ => rfl)
 refine ⟨_, _, X7.returnOut hx Bd.returns (dd 16 rfl) hr, hPf _ _ ⟨hrun, hended, _, _, rfl, ?_, hRW.1, hRW.2.1, hRW.2.2.1, hRW.2.2.2.mono (by decide) (by decide)⟩⟩
 show jeA Z wp sa da h0 n0 _ T7.heap _
 rw [e7]
 exact ⟨rfl, N7, K7, f7_1, f7_2⟩
abbrev jkT (m : MethodId) (pc : Nat) (a0 : Slot) (S : List Value) : JFrame := mkF m pc #[a0] S
theorem oD45_5p : oDec prog_45_method_5_code [(0, .aload_n 0, 1), (1, .getfield 17, 3), (4, .areturn, 1)] := by decide +kernel
def jjn (Z : State) (wp : Addr) (sa : Addr) (h0 : Heap) (n0 : Nat) (v : Option Value) (h : Heap) (L : List Loc) : Prop := v = some (.ref sa) ∧ Fr n0 L ∧ h = h0
theorem jhN (l : Launch) (Z : State) (a0 : Array Value) (hw : oH a0 Z) (ws : List Jvm.Cond) (wp : Addr) (sa : Addr) (h0 : Heap) (n0 : Nat) (Z0 : n0 ≤ h0.size) (Fw0 : Fld Z h0 wp S18' "source" S25' (.ref sa)) :
  ji l Z (⟨S18', "source", "()Ljava/lang/String;"⟩ : MethodName) prog_45_method_5_code 1 (some (.object S2')) ws ({ frames := 0, cells := 0, slots := 0, locals := 0 } : Room) #[(.ref wp)] h0 (jjn Z wp sa h0 n0) := by
 refine jb (plainFor_of_name jK) (fun m => jr m wp) ?_
 intro p e s m below meth c s₁ Bd hx hby hml hown hZ X0 e0 Pf hPf
 have N0 := Fr.nil n0
 have dd := oD45_5p.hb hby
 have ow106 := ow hw 106 rfl
 refine ja (A := oW p e below s₁ (jkT m 1 (oR wp) [(.ref wp)])) (fun t k => by
  refine XS.aloadN X0.here hx rfl (dd 0 rfl) rfl rfl ?_
  exact k) ?_
 obtain ⟨T1, X1, e1, st1⟩ := getF X0 hx hZ hown (host := "") (Or.inl ow106) Via.refl e0 Fw0 (g := (jkT m 1 (oR wp) [(.ref wp)])) rfl rfl (dd 1 rfl)
 refine ja st1 ?_
 refine jE X1 hx Bd hPf (by decide) (by decide) rfl rfl rfl (dd 2 rfl) ?_
 rw [e1]
 exact ⟨rfl, N0, rfl⟩
abbrev jkU (m : MethodId) (pc : Nat) (a0 : Slot) (S : List Value) : JFrame := mkF m pc #[a0] S
theorem oD45_6p : oDec prog_45_method_6_code [(0, .aload_n 0, 1), (1, .getfield 22, 3), (4, .areturn, 1)] := by decide +kernel
def jjo (Z : State) (wp : Addr) (sa : Addr) (h0 : Heap) (n0 : Nat) (v : Option Value) (h : Heap) (L : List Loc) : Prop := v = some (.ref sa) ∧ Fr n0 L ∧ h = h0
theorem jhO (l : Launch) (Z : State) (a0 : Array Value) (hw : oH a0 Z) (ws : List Jvm.Cond) (wp : Addr) (sa : Addr) (h0 : Heap) (n0 : Nat) (Z0 : n0 ≤ h0.size) (Fw0 : Fld Z h0 wp S18' S40' S25' (.ref sa)) :
  ji l Z (⟨S18', S40', "()Ljava/lang/String;"⟩ : MethodName) prog_45_method_6_code 1 (some (.object S2')) ws ({ frames := 0, cells := 0, slots := 0, locals := 0 } : Room) #[(.ref wp)] h0 (jjo Z wp sa h0 n0) := by
 refine jb (plainFor_of_name jK) (fun m => jr m wp) ?_
 intro p e s m below meth c s₁ Bd hx hby hml hown hZ X0 e0 Pf hPf
 have N0 := Fr.nil n0
 have dd := oD45_6p.hb hby
 have ow108 := ow hw 108 rfl
 refine ja (A := oW p e below s₁ (jkU m 1 (oR wp) [(.ref wp)])) (fun t k => by
  refine XS.aloadN X0.here hx rfl (dd 0 rfl) rfl rfl ?_
  exact k) ?_
 obtain ⟨T1, X1, e1, st1⟩ := getF X0 hx hZ hown (host := "") (Or.inl ow108) Via.refl e0 Fw0 (g := (jkU m 1 (oR wp) [(.ref wp)])) rfl rfl (dd 1 rfl)
 refine ja st1 ?_
 refine jE X1 hx Bd hPf (by decide) (by decide) rfl rfl rfl (dd 2 rfl) ?_
 rw [e1]
 exact ⟨rfl, N0, rfl⟩
def jbN (k : Nat) (h : Heap) : Prop := k ≤ h.size
theorem jbN.ext {k : Nat} {h h' : Heap} (S : jbN k h) (E : Ext h h') : jbN k h' := Nat.le_trans S E.1
theorem jbN.keep {k : Nat} {h h' : Heap} {ws : List Addr} (S : jbN k h) (K : Keep h h' ws) : jbN k h' := Nat.le_trans S K.1
def oM (xs : List Int32) : List Value := xs.map .int
theorem jbq (xs : List Int32) (j : Nat) : (oM xs).getD j (.int 0) = .int (xs.getD j 0) := by
 simp only [oM, List.getD_eq_getElem?_getD, List.getElem?_map]; cases xs[j]? <;> rfl
theorem jcZ (xs : List Int32) (j : Nat) (v : Int32) : (oM xs).set j (.int v) = oM (xs.set j v) := by simp [oM, List.map_set]
theorem jcI (xs : List Int32) : (oM xs).length = xs.length := by simp [oM]
theorem jcR (n : Nat) : ∀ i, (oM (List.replicate n 0)).getD i (.int 0) = ([] : List Value).getD i (.int 0) := fun i => by
 rw [jbq]; simp [List.getD_eq_getElem?_getD, List.getElem?_replicate]; split <;> rfl
def jbf (ss : List Int32) (n : Nat) : Nat → List Int32
 | 0 => List.replicate n 0
 | i + 1 => (jbf ss n i).set i (ss.getD i 0)
def jw (k1 : Nat) (ss : List Int32) : Nat → List Int32
 | 0 => List.replicate k1 0
 | i + 1 => (jw k1 ss i).set (ss.getD i 0 + 1).toNatClampNeg ((jw k1 ss i).getD (ss.getD i 0 + 1).toNatClampNeg 0 + 1)
def jG (xs : List Int32) : Nat → List Int32
 | 0 => xs
 | i + 1 => (jG xs i).set (i + 1) ((jG xs i).getD (i + 1) 0 + (jG xs i).getD i 0)
def jak (xs ss : List Int32) : Nat → List Int32
 | 0 => xs
 | i + 1 => (jak xs ss i).set (ss.getD i 0).toNatClampNeg ((jak xs ss i).getD (ss.getD i 0).toNatClampNeg 0 + 1)
def jcB (xs ss : List Int32) (n : Nat) : Nat → List Int32
 | 0 => List.replicate n 0
 | i + 1 => (jcB xs ss n i).set ((jak xs ss i).getD (ss.getD i 0).toNatClampNeg 0).toNatClampNeg (Int32.ofNat i)
theorem jfA (ss : List Int32) (n i : Nat) : (jbf ss n i).length = n := by induction i with | zero => simp [jbf] | succ i ih => simp [jbf, ih]
theorem jee (k1 : Nat) (ss : List Int32) (i : Nat) : (jw k1 ss i).length = k1 := by induction i with | zero => simp [jw] | succ i ih => simp [jw, ih]
theorem jfB (xs : List Int32) (i : Nat) : (jG xs i).length = xs.length := by induction i with | zero => rfl | succ i ih => simp [jG, ih]
theorem jlh (xs ss : List Int32) (i : Nat) : (jak xs ss i).length = xs.length := by induction i with | zero => rfl | succ i ih => simp [jak, ih]
theorem jli (xs ss : List Int32) (n i : Nat) : (jcB xs ss n i).length = n := by induction i with | zero => simp [jcB] | succ i ih => simp [jcB, ih]
theorem jfC {ss : List Int32} {n i : Nat} (hi : i < n) : (jbf ss n (i + 1)).getD i 0 = ss.getD i 0 := by
 simp [jbf, List.getD_eq_getElem?_getD, jfA, hi]
theorem jlj {ss : List Int32} {n : Nat} (hl : ss.length = n) (hn : n ≤ 3) : jbf ss n n = ss := by
 subst hl
 rcases ss with _ | ⟨a, _ | ⟨b, _ | ⟨c, _ | ⟨d, t⟩⟩⟩⟩
 · rfl
 · rfl
 · rfl
 · rfl
 · simp at hn
theorem jU : ∀ i, i < 4 → ∀ n, n < 4 → (i < n → Int32.ofNat i < Int32.ofNat n) ∧ (¬ i < n → ¬ Int32.ofNat i < Int32.ofNat n) ∧ ¬ Int32.ofNat i < 0 ∧ (Int32.ofNat i).toNatClampNeg = i := by decide
theorem jda (i : Nat) : Int32.ofNat i + 1 = Int32.ofNat (i + 1) := by rw [Int32.ofNat_add]; rfl
def jaM (k : Int32) : Prop := k = 1 ∨ k = 2 ∨ k = 3
def je (k : Int32) : Nat := k.toNatClampNeg
theorem jce {k : Int32} (h : jaM k) : ¬ (k + 1) < 0 ∧ (k + 1).toNatClampNeg = je k + 1 ∧ ¬ k < 0 ∧ Int32.ofNat (je k) = k ∧ je k < 4 ∧ 0 < je k ∧ k < k + 1 ∧ ¬ k = k + 1 := by rcases h with rfl | rfl | rfl <;> decide
theorem jcf {k s : Int32} (h : jaM k) (h3 : jaf s) (hl : s < k) : ¬ (s + 1) < 0 ∧ (s + 1) < k + 1 ∧ (s + 1).toNatClampNeg < je k + 1 ∧ ¬ s < 0 ∧ s.toNatClampNeg < je k := by
 rcases h with rfl | rfl | rfl <;> rcases h3 with rfl | rfl | rfl <;> revert hl <;> decide
theorem jcC {k : Int32} (h : jaM k) : ∀ i, i < 3 → i < je k → ¬ (Int32.ofNat i + 1) < 0 ∧ (Int32.ofNat i + 1) < k + 1 ∧ (Int32.ofNat i + 1).toNatClampNeg = i + 1 ∧ Int32.ofNat i < k + 1 ∧ i + 1 < je k + 1 ∧ Int32.ofNat i < k := by rcases h with rfl | rfl | rfl <;> decide
def jlT (k : Int32) (n : Nat) (ss : List Int32) : Prop := jaM k ∧ n ≤ 3 ∧ ss.length = n ∧ ∀ i, i < n → jaf (ss.getD i 0) ∧ ss.getD i 0 < k
def jbs (k : Int32) (ss : List Int32) : List Int32 := jG (jw (je k + 1) ss ss.length) (je k)
def jcg (Z : State) (h : Heap) (wl : Addr) (kk : Int32) : Prop := (Exa Z h wl S11' ∧ ∃ x0a y1a em, Fld Z h wl S11' "e0" S9' (.ref x0a) ∧ Fld Z h wl S11' "e1" S9' (.ref y1a) ∧ Sta Z h S29' "EMPTY" S9' (.ref em) ∧ (y1a = em → kk = 1) ∧ (y1a ≠ em → kk = 2)) ∨ (Exa Z h wl S17' ∧ kk = 3 ∧ ∃ el kl x0a x1a x2a, Fld Z h wl S17' S30' S4' (.ref el) ∧ Exa Z h el S4' ∧ Arv Z h el kl (.object S0') (3 : Int32) [(.ref x0a), (.ref x1a), (.ref x2a)] .null)
theorem jcg.ext {Z : State} {h h' : Heap} {wl : Addr} {kk : Int32} (W : jcg Z h wl kk) (E : Ext h h') : jcg Z h' wl kk := by
 rcases W with ⟨e, a, b, c, f1, f2, s, q⟩ | ⟨e, q, a, b, c, d, f, f1, e2, v⟩
 · exact Or.inl ⟨e.ext E, a, b, c, f1.ext E, f2.ext E, s.ext E, q⟩
 · exact Or.inr ⟨e.ext E, q, a, b, c, d, f, f1.ext E, e2.ext E, v.ext E⟩
theorem jcg.keep {Z : State} {h h' : Heap} {wl : Addr} {kk : Int32} {ws : List Addr} (W : jcg Z h wl kk) (K : Keep h h' ws) (N : ∀ x ∈ ws, jab Z h x [S11', S17', S4']) : jcg Z h' wl kk := by
 rcases W with ⟨e, a, b, c, f1, f2, s, q⟩ | ⟨e, q, a, b, c, d, f, f1, e2, v⟩
 ·
  have nn := jV N e (by simp)
  exact Or.inl ⟨e.keep K, a, b, c, f1.keep K nn, f2.keep K nn, jC s K (jab.ns N), q⟩
 · exact Or.inr ⟨e.keep K, q, a, b, c, d, f, f1.keep K (jV N e (by simp)), e2.keep K, v.keep K (jV N e2 (by simp))⟩
theorem jef {wl : Addr} {kk : Int32} {n0 : Nat} (hw : oH a0 Z) (X : Stand p l e R s m args below meth c T locs cells slots) (hx : p.tables.exec = Jvm.exec) (hZ : Z.Warmed39 s.vm) (hown : s.vm.findClass S7' = some m.cls) (WL : jcg Z h wl kk) (Z0 : n0 ≤ h.size) (eT : T.heap = h) {g : JFrame} (hg : g.method = m) (hsize : g.locals.size = c.maxLocals) {rest : List Value} (hs : g.stack = .ref wl :: rest) {W : Nat} (hW : 2 * g.monitorRoom + (rest.map fun v => v.category).sum ≤ W) (hd : decode c.code g.pc = .ok (.invokeinterface 85 1, 5)) (hR : 1 ≤ R.frames ∧ W + 12 ≤ R.locals ∧ cells ≤ R.cells ∧ slots ≤ R.slots) :
  ∃ T' L', Stand p l e R s m args below meth c T' (locs ++ L') cells slots ∧ T'.heap = h ∧ Fr n0 L' ∧ ∀ t, Steps p.tables e below (T'.setTop { g with pc := g.pc + 5, stack := .int kk :: rest }) t → Steps p.tables e below (T.setTop g) t := by
 rcases WL with ⟨e1, x0a, y1a, em, f1, f2, s1, q1, q2⟩ | ⟨e1, rfl, el, kl, x0a, x1a, x2a, f1, -, v1⟩
 ·
  obtain ⟨v, T', L', X', hQ, st⟩ := jaI X hx hZ hown (ow hw 398 rfl) (ow hw 399 rfl) (ow hw 502 rfl) (ow hw 268 rfl) (mvT hZ (ow hw 400 rfl)) (ow hw 503 rfl) (ow hw 504 rfl) (ow hw 259 rfl) (ow hw 269 rfl) (ow hw 223 rfl) (jdt l Z a0 hw [] wl x0a y1a em kk h n0 Z0 e1 f1 f2 s1 q1 q2) eT e1 (by decide) hg hsize (rest := rest) rfl (lenOf jag rfl) hs (W := W) hW hd ⟨hR.1, hR.2.1, hR.2.2.1, hR.2.2.2⟩
  obtain ⟨rfl, N, eh⟩ := hQ
  exact ⟨T', L', X', eh, N, st⟩
 ·
  obtain ⟨v, T', L', X', hQ, st⟩ := jaI X hx hZ hown (ow hw 398 rfl) (ow hw 399 rfl) (ow hw 625 rfl) (ow hw 618 rfl) (mvT hZ (ow hw 400 rfl)) (ow hw 626 rfl) (ow hw 627 rfl) (ow hw 616 rfl) (ow hw 619 rfl) (ow hw 601 rfl) (jdu l Z a0 hw [] wl el kl x0a x1a x2a h n0 Z0 e1 f1 v1) eT e1 (by decide) hg hsize (rest := rest) rfl (lenOf jag rfl) hs (W := W) hW hd ⟨hR.1, hR.2.1, hR.2.2.1, hR.2.2.2⟩
  obtain ⟨rfl, N, eh⟩ := hQ
  exact ⟨T', L', X', eh, N, st⟩
def jjp (Z : State) (n0 : Nat) (h : Heap) (evs : List Value) (i : Nat) (a d : Int32) : Prop := ∃ wp sa da, evs.getD i .null = .ref wp ∧ Exa Z h wp S18' ∧ Fld Z h wp S18' "source" S25' (.ref sa) ∧ Fld Z h wp S18' S40' S25' (.ref da) ∧ jn Z n0 h sa ((97 : Int32) + a) ∧ jn Z n0 h da ((97 : Int32) + d)
def jbg (Z : State) (n0 : Nat) (h : Heap) (pe : Addr) (nn : Nat) (ss ds : List Int32) : Prop := nn = 0 ∨ (Exa Z h pe S4' ∧ ∃ ke evs, Arv Z h pe ke (.object S0') (10 : Int32) evs .null ∧ ∀ i, i < nn → jjp Z n0 h evs i (ss.getD i 0) (ds.getD i 0))
theorem jbg.at {Z : State} {n0 : Nat} {h : Heap} {pe : Addr} {nn : Nat} {ss ds : List Int32} (P : jbg Z n0 h pe nn ss ds) {i : Nat} (hi : i < nn) : Exa Z h pe S4' ∧ ∃ ke evs, Arv Z h pe ke (.object S0') (10 : Int32) evs .null ∧ jjp Z n0 h evs i (ss.getD i 0) (ds.getD i 0) := by
 rcases P with q | ⟨e, ke, evs, v, H⟩
 · omega
 · exact ⟨e, ke, evs, v, H i hi⟩
theorem jbg.ext {Z : State} {n0 : Nat} {h h' : Heap} {pe : Addr} {nn : Nat} {ss ds : List Int32} (P : jbg Z n0 h pe nn ss ds) (E : Ext h h') : jbg Z n0 h' pe nn ss ds := by
 rcases P with q | ⟨e, ke, evs, v, H⟩
 · exact Or.inl q
 · exact Or.inr ⟨e.ext E, ke, evs, v.ext E, fun i hi => by obtain ⟨wp, sa, da, q, e1, f1, f2, s1, s2⟩ := H i hi; exact ⟨wp, sa, da, q, e1.ext E, f1.ext E, f2.ext E, s1.ext E, s2.ext E⟩⟩
theorem jbg.keep {Z : State} {n0 : Nat} {h h' : Heap} {pe : Addr} {nn : Nat} {ss ds : List Int32} {ws : List Addr} (P : jbg Z n0 h pe nn ss ds) (K : Keep h h' ws) (N : ∀ x ∈ ws, jab Z h x [S2', "[B", S18', S4']) : jbg Z n0 h' pe nn ss ds := by
 rcases P with q | ⟨e, ke, evs, v, H⟩
 · exact Or.inl q
 ·
  exact Or.inr ⟨e.keep K, ke, evs, v.keep K (jV N e (by simp)), fun i hi => by
   obtain ⟨wp, sa, da, q, e1, f1, f2, s1, s2⟩ := H i hi
   have nn := jV N e1 (by simp)
   exact ⟨wp, sa, da, q, e1.keep K, f1.keep K nn, f2.keep K nn, s1.keep K (jbC N (by simp)), s2.keep K (jbC N (by simp))⟩⟩
theorem jbg.keepS {Z : State} {n0 : Nat} {h h' : Heap} {pe x : Addr} {nn : Nat} {d : Int32} {ss ds : List Int32} (P : jbg Z n0 h pe nn ss ds) (K : Keep h h' [x]) (S0 : jn Z n0 h x d) (S1 : jn Z n0 h' x d) : jbg Z n0 h' pe nn ss ds := by
 rcases P with q | ⟨e, ke, evs, v, H⟩
 · exact Or.inl q
 ·
  exact Or.inr ⟨e.keep K, ke, evs, v.keep K (ninS (Exa.ne e S0.2.1 (by decide)) nin0), fun i hi => by
   obtain ⟨wp, sa, da, q, e1, f1, f2, s1, s2⟩ := H i hi
   have nn := ninS (Exa.ne e1 S0.2.1 (by decide)) nin0
   exact ⟨wp, sa, da, q, e1.keep K, f1.keep K nn, f2.keep K nn, s1.keepS K S0 S1, s2.keepS K S0 S1⟩⟩
abbrev jlk (m : MethodId) (pc : Nat) (a0 a1 : Slot) (S : List Value) : JFrame := mkF m pc #[a0, a1] S
def jhP (Z : State) (pi : Int32) (pn : Int32)  (h0 : Heap) (n0 : Nat) (v : Option Value) (h : Heap) (L : List Loc) : Prop := v = some (.int pn) ∧ Fr n0 L ∧ h = h0
theorem jfD (l : Launch) (Z : State) (a0 : Array Value) (hw : oH a0 Z) (ws : List Jvm.Cond) (pi : Int32) (pn : Int32)  (h0 : Heap) (n0 : Nat) (Z0 : n0 ≤ h0.size) (hlt : pn < pi) :
  ji l Z M4' jdk_29_method_69_code 2 (some .int) ws ({ frames := 0, cells := 0, slots := 0, locals := 0 } : Room) #[(.int pi), (.int pn)] h0 (jhP Z pi pn h0 n0) := by
 refine jb (Jvm.Free.JP.mathPlain rfl (by decide +kernel)) (fun m => jbk m pi pn) ?_
 intro p e s m below meth c s₁ Bd hx hby hml hown hZ X0 e0 Pf hPf
 have N0 := Fr.nil n0
 have dd := oD29_69j.hb hby
 refine ja (A := oW p e below s₁ (jlk m 10 (oi pi) (oi pn) [(.int pn)])) (fun t k => by
  refine XS.iloadN X0.here hx rfl (dd 0 rfl) rfl ?_
  refine XS.iloadN X0.here hx rfl (dd 1 rfl) rfl ?_
  refine XS.icmpYes X0.here hx rfl (pc0 := 2) (pc' := 9) rfl (dd 2 rfl) rfl (tlt hlt).2.2.1 (by decide) (by decide) ?_
  refine XS.iloadN X0.here hx rfl (dd 5 rfl) rfl ?_
  exact k) ?_
 refine jaD X0 hx Bd hPf (by decide) (by decide) (dd 6 rfl) ?_
 rw [e0]
 exact ⟨rfl, N0, rfl⟩
theorem jll {k : Int32} (hk : jaM k) {xs : List Int32} (hl : xs.length = je k + 1) : (oM (List.replicate (je k) 0)).take 0 ++ (List.range k.toNatClampNeg).map (fun i => (oM xs).getD (0 + i) (.int 0)) ++ (oM (List.replicate (je k) 0)).drop (0 + k.toNatClampNeg) = oM (xs.take (je k)) := by
 rcases hk with rfl | rfl | rfl
 · rcases xs with _ | ⟨a, _ | ⟨b, _ | ⟨c, t⟩⟩⟩ <;> first | (exfalso; revert hl; simp [je]; done) | rfl | (exfalso; simp [je] at hl; omega)
 · rcases xs with _ | ⟨a, _ | ⟨b, _ | ⟨c, _ | ⟨d, t⟩⟩⟩⟩ <;> first | (exfalso; revert hl; simp [je]; done) | rfl | (exfalso; simp [je] at hl; omega)
 · rcases xs with _ | ⟨a, _ | ⟨b, _ | ⟨c, _ | ⟨d, _ | ⟨f, t⟩⟩⟩⟩⟩ <;> first | (exfalso; revert hl; simp [je]; done) | rfl | (exfalso; simp [je] at hl; omega)
theorem jjq {k : Int32} (hk : jaM k) : (0 : Int32).toNatClampNeg + k.toNatClampNeg ≤ (k + 1).toNatClampNeg ∧ k.toNatClampNeg ≤ 3 ∧ (k + 1).toNatClampNeg ≤ 4 := by rcases hk with rfl | rfl | rfl <;> decide
abbrev jcS (m : MethodId) (pc : Nat) (a0 a1 a2 : Slot) (S : List Value) : JFrame := mkF m pc #[a0, a1, a2] S
theorem oD65_123j : oDec jdk_65_method_123_code [(0, .iload_n 1, 1), (1, .aload_n 0, 1), (2, .arraylength, 1), (3, .if_icmp .ne 11, 3), (6, .aload_n 0, 1), (7, .invokevirtual 316, 3), (10, .checkcast 317, 3), (13, .areturn, 1), (14, .iload_n 1, 1), (15, .newarray .int, 2), (17, .astore_n 2, 1), (18, .aload_n 0, 1), (19, .iconst 0, 1), (20, .aload_n 2, 1), (21, .iconst 0, 1), (22, .aload_n 0, 1), (23, .arraylength, 1), (24, .iload_n 1, 1), (25, .invokestatic 304, 3), (28, .invokestatic 150, 3), (31, .aload_n 2, 1), (32, .areturn, 1)] := by decide +kernel
def jjr (Z : State) (sa : Addr) (kk : Int32) (ks : ClassId) (xs : List Int32) (h0 : Heap) (n0 : Nat) (v : Option Value) (h : Heap) (L : List Loc) : Prop := ∃ (na : Addr) (kn : ClassId), v = some (.ref na) ∧ Fr n0 L ∧ Keep h0 h [] ∧ h0.size ≤ na ∧ Exa Z h na "[I" ∧ Arv Z h na kn .int kk (oM (xs.take (je kk))) (.int 0)
theorem jhQ (l : Launch) (Z : State) (a0 : Array Value) (hw : oH a0 Z) (ws : List Jvm.Cond) (sa : Addr) (kk : Int32) (ks : ClassId) (xs : List Int32) (h0 : Heap) (n0 : Nat) (Z0 : n0 ≤ h0.size) (hk : jaM kk) (hxl : xs.length = je kk + 1) (Ea0 : Exa Z h0 sa "[I") (Va0 : Arv Z h0 sa ks .int (kk + (1 : Int32)) (oM xs) (.int 0)) :
  ji l Z (⟨"java/util/Arrays", "copyOf", "([II)[I"⟩ : MethodName) jdk_65_method_123_code 3 (some (.array .int)) ws ({ frames := 1, cells := 1, slots := 3, locals := 64 } : Room) #[(.ref sa), (.int kk)] h0 (jjr Z sa kk ks xs h0 n0) := by
 refine jb (plainFor_of_name jP) (fun m => jbV m sa kk) ?_
 intro p e s m below meth c s₁ Bd hx hby hml hown hZ X0 e0 Pf hPf
 have N0 := Fr.nil n0
 have dd := oD65_123j.hb hby
 have ow81 := ow hw 81 rfl
 have ow211 := ow hw 211 rfl
 have ow212 := ow hw 212 rfl
 have ow213 := ow hw 213 rfl
 have ow214 := ow hw 214 rfl
 have ow215 := ow hw 215 rfl
 have ow216 := ow hw 216 rfl
 have ow217 := ow hw 217 rfl
 have ow407 := ow hw 407 rfl
 refine ja (A := oW p e below s₁ (jcS m 15 (oR sa) (oi kk) ou [(.int kk)])) (fun t k => by
  refine XS.iloadN X0.here hx rfl (dd 0 rfl) rfl ?_
  refine XS.aloadN X0.here hx rfl (dd 1 rfl) rfl rfl ?_
  refine jM X0 hx hZ e0 Va0 (g := (jcS m 2 (oR sa) (oi kk) ou [(.ref sa), (.int kk)])) rfl rfl (dd 2 rfl) _ ?_
  refine XS.icmpYes X0.here hx rfl (pc0 := 3) (pc' := 14) rfl (dd 3 rfl) rfl (feq (jce hk).2.2.2.2.2.2.2).2 (by decide) (by decide) ?_
  refine XS.iloadN X0.here hx rfl (dd 8 rfl) rfl ?_
  exact k) ?_
 obtain ⟨T1, h1, k1, X1, e1, E1, A1, Q1, st1⟩ := newPE X0 hx hZ (aty := .int) ow407 e0 (g := (jcS m 15 (oR sa) (oi kk) ou [(.int kk)])) rfl (dd 9 rfl) rfl (jce hk).2.2.1 (cap := 3) (jjq hk).2.1 (by decide) (by decide) (by decide) (ad := "[I") (by decide)
 obtain ⟨b1, g1⟩ : ∃ z, z = h0.size := ⟨_, rfl⟩
 rw [← g1] at A1 Q1 st1
 refine ja st1 ?_
 have ne_sa_b1 : sa ≠ b1 := Nat.ne_of_lt (Nat.lt_of_lt_of_le Ea0.lt (Nat.le_of_eq g1.symm))
 have g_b1 : n0 ≤ b1 := Nat.le_trans Z0 (Nat.le_of_eq g1.symm)
 have Z1 : n0 ≤ h1.size := Nat.le_trans Z0 E1.1
 have sz_b1 : h0.size ≤ b1 := Nat.le_trans (Keep.refl h0 []).1 (Nat.le_of_eq g1.symm)
 have K1 : Keep h0 h1 [] := (Keep.refl h0 []).ext E1
 have V1 : Arv Z h1 b1 k1 .int kk (oM (List.replicate (je kk) 0)) (.int 0) := (Arv.new A1 (jce hk).2.2.1).pad (jcR _)
 refine ja (A := oW p e below T1 (jcS m 25 (oR sa) (oi kk) (oR b1) [(.int kk), (.int (kk + (1 : Int32))), (.int 0), (.ref b1), (.int 0), (.ref sa)])) (fun t k => by
  refine XS.astoreN X1.here hx rfl (dd 10 rfl) rfl rfl (l' := #[(oR sa), (oi kk), (oR b1)]) rfl ?_
  refine XS.aloadN X1.here hx rfl (dd 11 rfl) rfl rfl ?_
  refine XS.iconst X1.here hx rfl (dd 12 rfl) ?_
  refine XS.aloadN X1.here hx rfl (dd 13 rfl) rfl rfl ?_
  refine XS.iconst X1.here hx rfl (dd 14 rfl) ?_
  show oW p e below T1 (jcS m 22 (oR sa) (oi kk) (oR b1) [(.int 0), (.ref b1), (.int 0), (.ref sa)]) _
  refine XS.aloadN X1.here hx rfl (dd 15 rfl) rfl rfl ?_
  refine jM X1 hx hZ e1 (Va0.ext E1) (g := (jcS m 23 (oR sa) (oi kk) (oR b1) [(.ref sa), (.int 0), (.ref b1), (.int 0), (.ref sa)])) rfl rfl (dd 16 rfl) _ ?_
  refine XS.iloadN X1.here hx rfl (dd 17 rfl) rfl ?_
  exact k) ?_
 obtain ⟨_, T2, L2, X2, hQ2, st2⟩ := jH X1 hx hZ hown ow211 ow212 ow213 ow81 (jfD l Z a0 hw [] (kk + (1 : Int32)) kk h1 n0 Z1 (jce hk).2.2.2.2.2.2.1) e1 (by decide) (g := (jcS m 25 (oR sa) (oi kk) (oR b1) [(.int kk), (.int (kk + (1 : Int32))), (.int 0), (.ref b1), (.int 0), (.ref sa)])) rfl (by rw [hml]; rfl) (rest := [(.int 0), (.ref b1), (.int 0), (.ref sa)]) rfl (lenOf jaG rfl) rfl (W := 4) (Nat.le_of_eq rfl) (dd 18 rfl) (by decide)
 obtain ⟨rfl, N2q, eh2⟩ := hQ2
 have N2 := Fr.app N0 N2q
 refine ja st2 ?_
 obtain ⟨T3, h3, L3, X3, e3, N3, Kc3, A3, st3⟩ := cpA X2 hx hZ hown ow214 ow217 ow215 ow216 eh2 (Va0.ext E1) V1 (us := (List.range kk.toNatClampNeg).map (fun i => (oM xs).getD (0 + i) (.int 0))) (Or.inl ⟨rfl, rfl⟩) (by decide) (by decide) (jce hk).2.2.1 (jjq hk).1 (Nat.le_of_eq (Nat.zero_add _)) rfl (by rw [jcI]; simp [je]) N2 g_b1 (g := (jcS m 28 (oR sa) (oi kk) (oR b1) [(.int kk), (.int 0), (.ref b1), (.int 0), (.ref sa)])) rfl (by rw [hml]; rfl) rfl (dd 19 rfl) (by decide) (W := 0) (Nat.le_of_eq rfl) (by decide)
 refine ja st3 ?_
 rw [show (0 : Int32).toNatClampNeg = 0 from rfl, jll hk hxl] at A3
 have K3 : Keep h0 h3 [] := K1.trans Kc3 (allS (Or.inr sz_b1) all0)
 have Q3k := Q1.keep Kc3
 refine ja (A := oW p e below T3 (jcS m 32 (oR sa) (oi kk) (oR b1) [(.ref b1)])) (fun t k => by
  refine XS.aloadN X3.here hx rfl (dd 20 rfl) rfl rfl ?_
  exact k) ?_
 refine jE X3 hx Bd hPf (by decide) (by decide) rfl rfl rfl (dd 21 rfl) ?_
 rw [e3]
 exact ⟨b1, k1, rfl, N3, K3, sz_b1, Q3k, A3⟩
def jbO (h : Heap) (a : Addr) : Prop := ∃ cell : Cell, h[a]? = some cell ∧ cell.vm ≠ .unknown
theorem jbO.ext {h h' : Heap} {a : Addr} (N : jbO h a) (E : Ext h h') : jbO h' a := by obtain ⟨c, q, r⟩ := N; exact ⟨c, E.2 _ _ q, r⟩
theorem jbO.keep {h h' : Heap} {a : Addr} {ws : List Addr} (N : jbO h a) (K : Keep h h' ws) : jbO h' a := by obtain ⟨c, q, r⟩ := N; obtain ⟨c', q', -, r', -⟩ := K.2.2 _ _ q; exact ⟨c', q', by rw [r']; exact r⟩
def oR2 (xs : List Addr) : List Value := xs.map .ref ++ List.replicate (10 - xs.length) .null
def jbP (Z : State) (n0 : Nat) (h : Heap) (ww : Addr) (kk : Int32) : Prop := Exa Z h ww S3' ∧ ∃ ea ke xs, Fld Z h ww S3' S15' S4' (.ref ea) ∧ Exa Z h ea S4' ∧ Fld Z h ww S3' S8' "I" (.int kk) ∧ xs.length = je kk ∧ Arv Z h ea ke (.object S0') (10 : Int32) (oR2 xs) .null ∧ ∀ i, i < xs.length → jn Z n0 h (xs.getD i 0) ((97 : Int32) + Int32.ofNat i)
theorem jbP.ext {Z : State} {n0 : Nat} {h h' : Heap} {ww : Addr} {kk : Int32} (W : jbP Z n0 h ww kk) (E : Ext h h') : jbP Z n0 h' ww kk := by
 obtain ⟨e, ea, ke, xs, f1, e2, f2, hl, v, H⟩ := W
 exact ⟨e.ext E, ea, ke, xs, f1.ext E, e2.ext E, f2.ext E, hl, v.ext E, fun i hi => (H i hi).ext E⟩
theorem jbP.keep {Z : State} {n0 : Nat} {h h' : Heap} {ww : Addr} {kk : Int32} {ws : List Addr} (W : jbP Z n0 h ww kk) (K : Keep h h' ws) (N : ∀ x ∈ ws, jab Z h x [S2', "[B", S3', S4']) : jbP Z n0 h' ww kk := by
 obtain ⟨e, ea, ke, xs, f1, e2, f2, hl, v, H⟩ := W
 have nn := jV N e (by simp)
 exact ⟨e.keep K, ea, ke, xs, f1.keep K nn, e2.keep K, f2.keep K nn, hl, v.keep K (jV N e2 (by simp)), fun i hi => (H i hi).keep K (jbC N (by simp))⟩
theorem jn.keepW {Z : State} {n0 : Nat} {h h' : Heap} {a x : Addr} {c d : Int32} {ws : List Addr} (S : jn Z n0 h a c) (K : Keep h h' ws) (N : ∀ y ∈ ws, jab Z h y [S2', "[B"] ∨ y = x) (S0 : jn Z n0 h x d) (S1 : jn Z n0 h' x d) : jn Z n0 h' a c := by
 by_cases q : a = x
 · subst q; rw [S.inj S0]; exact S1
 ·
  obtain ⟨g, e, f1, f2, ⟨hv, f3, r⟩, b, kb, f4, e2, v⟩ := S
  have nn : ∀ {y : Addr} {D : String}, Exa Z h y D → D ∈ [S2', "[B"] → y ≠ x → y ∉ ws := fun ey hD hne hm => by
   rcases N _ hm with ⟨C, e, hC⟩ | z
   · exact Exa.ne e ey (fun z => hC (z ▸ hD)) rfl
   · exact hne z
  have na := nn e (by simp) q
  exact ⟨g, e.keep K, f1.keep K na, f2.keep K na, ⟨hv, f3.keep K na, r⟩, b, kb, f4.keep K na, e2.keep K, v.keep K (nn e2 (by simp) (Exa.ne e2 S0.2.1 (by decide)))⟩
theorem jbg.keepW {Z : State} {n0 : Nat} {h h' : Heap} {pe x : Addr} {nn : Nat} {d : Int32} {ss ds : List Int32} {ws : List Addr} (P : jbg Z n0 h pe nn ss ds) (K : Keep h h' ws) (N : ∀ y ∈ ws, jab Z h y [S2', "[B", S18', S4'] ∨ y = x) (S0 : jn Z n0 h x d) (S1 : jn Z n0 h' x d) : jbg Z n0 h' pe nn ss ds := by
 have sb : ∀ y ∈ ws, jab Z h y [S2', "[B"] ∨ y = x := fun y hy => (N y hy).imp (fun ⟨C, e, hC⟩ => ⟨C, e, fun z => hC (by simp at z ⊢; rcases z with z | z <;> simp [z])⟩) id
 have nw : ∀ {y : Addr} {D : String}, Exa Z h y D → D ∈ [S2', "[B", S18', S4'] → D ≠ S2' → y ∉ ws := fun ey hD hn hm => by
  rcases N _ hm with ⟨C, e, hC⟩ | z
  · exact Exa.ne e ey (fun z => hC (z ▸ hD)) rfl
  · exact Exa.ne ey S0.2.1 hn z
 rcases P with q | ⟨e, ke, evs, v, H⟩
 · exact Or.inl q
 ·
  exact Or.inr ⟨e.keep K, ke, evs, v.keep K (nw e (by simp) (by decide)), fun i hi => by
   obtain ⟨wp, sa, da, q, e1, f1, f2, s1, s2⟩ := H i hi
   have nn := nw e1 (by simp) (by decide)
   exact ⟨wp, sa, da, q, e1.keep K, f1.keep K nn, f2.keep K nn, s1.keepW K sb S0 S1, s2.keepW K sb S0 S1⟩⟩
theorem jlC {α : Type} {xs : List α} (h : xs.length = 1) : ∃ a, xs = [a] := by rcases xs with _ | ⟨a, _ | ⟨b, t⟩⟩ <;> simp at h ⊢
theorem jlD {α : Type} {xs : List α} (h : xs.length = 2) : ∃ a b, xs = [a, b] := by rcases xs with _ | ⟨a, _ | ⟨b, _ | ⟨c, t⟩⟩⟩ <;> simp at h ⊢
theorem jlE {α : Type} {xs : List α} (h : xs.length = 3) : ∃ a b c, xs = [a, b, c] := by rcases xs with _ | ⟨a, _ | ⟨b, _ | ⟨c, _ | ⟨d, t⟩⟩⟩⟩ <;> simp at h ⊢
theorem jlm : ∀ i, i < 4 → Int32.ofNat i < 10 := by decide
theorem jcD {n : Nat} (h : n ≤ 3) : ¬ Int32.ofNat n < 0 ∧ (Int32.ofNat n).toNatClampNeg = n ∧ (Int32.ofNat n).toNatClampNeg ≤ 3 := by
 have q := jU n (by omega) 0 (by decide)
 exact ⟨q.2.2.1, q.2.2.2, by rw [q.2.2.2]; exact h⟩
theorem ji.imp {l : Launch} {Z : State} {y : MethodName} {bytes : ByteArray} {ml : Nat} {ret : Option FieldType} {ws : List Jvm.Cond} {R : Room} {A : Array Value} {h0 : Heap} {Q Q' : Option Value → Heap → List Loc → Prop} (M : ji l Z y bytes ml ret ws R A h0 Q) (k : ∀ v h L, Q v h L → Q' v h L) : ji l Z y bytes ml ret ws R A h0 Q' := fun p e ha hc hk s m args below hf happ hP hK => by
 obtain ⟨n, o, h1, h2, h3, v, L, e1, hq, hr⟩ := M p e ha hc hk s m args below hf happ hP hK
 exact ⟨n, o, h1, h2, h3, v, L, e1, k _ _ _ hq, hr⟩
def jbF (Z : State) (n0 : Nat) (h : Heap) (wl : Addr) (kk : Int32) (xs : List Addr) : Prop := xs.length = je kk ∧ (∀ i, i < xs.length → jn Z n0 h (xs.getD i 0) ((97 : Int32) + Int32.ofNat i)) ∧
 ((Exa Z h wl S11' ∧ ∃ y1a em, Fld Z h wl S11' "e0" S9' (.ref (xs.getD 0 0)) ∧ Fld Z h wl S11' "e1" S9' (.ref y1a) ∧ Sta Z h S29' "EMPTY" S9' (.ref em) ∧ (y1a = em → kk = 1) ∧ (y1a ≠ em → kk = 2 ∧ xs.getD 1 0 = y1a)) ∨ (Exa Z h wl S17' ∧ kk = 3 ∧ ∃ el kl, Fld Z h wl S17' S30' S4' (.ref el) ∧ Exa Z h el S4' ∧ Arv Z h el kl (.object S0') (3 : Int32) [.ref (xs.getD 0 0), .ref (xs.getD 1 0), .ref (xs.getD 2 0)] .null))
theorem jbF.wl {Z : State} {n0 : Nat} {h : Heap} {wl : Addr} {kk : Int32} {xs : List Addr} (W : jbF Z n0 h wl kk xs) : jcg Z h wl kk := by
 obtain ⟨-, -, ⟨e, y, em, f1, f2, s, q1, q2⟩ | ⟨e, q, el, kl, f1, e2, v⟩⟩ := W
 · exact Or.inl ⟨e, _, y, em, f1, f2, s, q1, fun z => (q2 z).1⟩
 · exact Or.inr ⟨e, q, el, kl, _, _, _, f1, e2, v⟩
theorem jbF.ext {Z : State} {n0 : Nat} {h h' : Heap} {wl : Addr} {kk : Int32} {xs : List Addr} (W : jbF Z n0 h wl kk xs) (E : Ext h h') : jbF Z n0 h' wl kk xs := by
 obtain ⟨hl, H, ⟨e, y, em, f1, f2, s, q⟩ | ⟨e, q, el, kl, f1, e2, v⟩⟩ := W
 · exact ⟨hl, fun i hi => (H i hi).ext E, Or.inl ⟨e.ext E, y, em, f1.ext E, f2.ext E, s.ext E, q⟩⟩
 · exact ⟨hl, fun i hi => (H i hi).ext E, Or.inr ⟨e.ext E, q, el, kl, f1.ext E, e2.ext E, v.ext E⟩⟩
def jdg (Z : State) (h : Heap) (x : Addr) (L : List String) : Prop := ∃ C, Exa Z h x C ∧ C ∈ L
theorem jbQ {Z : State} {h : Heap} {ws : List Addr} {L : List String} {a x : Addr} {D : String} (N : ∀ y ∈ ws, jdg Z h y L ∨ y = x) (E : Exa Z h a D) (hD : D ∉ L) (hx : a ≠ x) : a ∉ ws := fun q => by
 rcases N a q with ⟨C, e, hC⟩ | z
 · exact Exa.ne e E (fun z => hD (z ▸ hC)) rfl
 · exact hx z
theorem jfZ {Z : State} {h : Heap} {ws : List Addr} {L M : List String} {x : Addr} (N : ∀ y ∈ ws, jdg Z h y L ∨ y = x) (q : ∀ y ∈ L, y ∉ M) : ∀ y ∈ ws, jab Z h y M ∨ y = x := fun y hy => (N y hy).imp (fun ⟨C, e, hC⟩ => ⟨C, e, q _ hC⟩) id
theorem jbF.keepW {Z : State} {n0 : Nat} {h h' : Heap} {wl x : Addr} {kk d : Int32} {xs : List Addr} {ws : List Addr} (W : jbF Z n0 h wl kk xs) (K : Keep h h' ws) (N : ∀ y ∈ ws, jdg Z h y [S1', S16', S1'] ∨ y = x) (S0 : jn Z n0 h x d) (S1 : jn Z n0 h' x d) : jbF Z n0 h' wl kk xs := by
 have ns : ∀ y ∈ ws, ∀ cell : Cell, h[y]? = some cell → cell.vm.isStatics = false := fun y hy => by
  rcases N y hy with ⟨C, e, -⟩ | z
  · exact jaZ e
  · rw [z]; exact jaZ S0.2.1
 have nx : ∀ {a : Addr} {D : String}, Exa Z h a D → D ≠ S2' → a ≠ x := fun e q => Exa.ne e S0.2.1 q
 obtain ⟨hl, H, ⟨e, y, em, f1, f2, s, q⟩ | ⟨e, q, el, kl, f1, e2, v⟩⟩ := W
 ·
  have nn := jbQ N e (by decide) (nx e (by decide))
  exact ⟨hl, fun i hi => (H i hi).keepW K (jfZ N (by decide)) S0 S1, Or.inl ⟨e.keep K, y, em, f1.keep K nn, f2.keep K nn, jC s K ns, q⟩⟩
 · exact ⟨hl, fun i hi => (H i hi).keepW K (jfZ N (by decide)) S0 S1, Or.inr ⟨e.keep K, q, el, kl, f1.keep K (jbQ N e (by decide) (nx e (by decide))), e2.keep K, v.keep K (jbQ N e2 (by decide) (nx e2 (by decide)))⟩⟩
theorem jbF.keep {Z : State} {n0 : Nat} {h h' : Heap} {wl : Addr} {kk : Int32} {xs : List Addr} {ws : List Addr} (W : jbF Z n0 h wl kk xs) (K : Keep h h' ws) (N : ∀ x ∈ ws, jab Z h x [S2', "[B", S11', S17', S4']) : jbF Z n0 h' wl kk xs := by
 obtain ⟨hl, H, ⟨e, y, em, f1, f2, s, q⟩ | ⟨e, q, el, kl, f1, e2, v⟩⟩ := W
 ·
  have nn := jV N e (by simp)
  exact ⟨hl, fun i hi => (H i hi).keep K (jbC N (by simp)), Or.inl ⟨e.keep K, y, em, f1.keep K nn, f2.keep K nn, jC s K (jab.ns N), q⟩⟩
 · exact ⟨hl, fun i hi => (H i hi).keep K (jbC N (by simp)), Or.inr ⟨e.keep K, q, el, kl, f1.keep K (jV N e (by simp)), e2.keep K, v.keep K (jV N e2 (by simp))⟩⟩
theorem jhR (l : Launch) (Z : State) (a0 : Array Value) (hw : oH a0 Z) (ws : List Jvm.Cond) (ww em mo : Addr) (kk : Int32) (h0 : Heap) (n0 : Nat) (Z0 : n0 ≤ h0.size) (Se0 : Sta Z h0 S29' "EMPTY" S9' (.ref em)) (Em1 : Exa Z h0 em S0') (hmo : Mir Z S4' mo) (HW : jbP Z n0 h0 ww kk) (hk : jaM kk) :
  ji l Z M11' jdk_40_method_48_code 1 (some (.object S24')) [] ({ frames := 8, cells := 3, slots := 8, locals := 117 } : Room) #[(.ref ww)] h0 (fun v h L => ∃ (wl : Addr) (xs : List Addr), v = some (.ref wl) ∧ Fr n0 L ∧ Keep h0 h [] ∧ h0.size ≤ wl ∧ jbF Z n0 h wl kk xs) := by
 obtain ⟨Eww, ea, kea, xs, Fwe, Eea, Fws, hxl, Vea, Hxs⟩ := HW
 rcases id hk with hk1 | hk1 | hk1
 ·
  subst hk1
  obtain ⟨x0a, rfl⟩ := jlC hxl
  have Veq : Arv Z h0 ea kea (.object S0') (10 : Int32) [(.ref x0a), .null, .null, .null, .null, .null, .null, .null, .null, .null] .null := Vea
  have hxs0 : jn Z n0 h0 x0a ((97 : Int32) + (0 : Int32)) := Hxs 0 (by simp)
  exact (jfl l Z a0 hw [] ww em mo ea kea x0a h0 n0 Z0 Se0 Em1 hmo Eww Fwe Fws Eea Veq hxs0.2.1).imp fun v h L q => by
   obtain ⟨wl, rfl, N, K, sz, a1, a2, a3⟩ := q
   exact ⟨wl, [x0a], rfl, N, K, sz, rfl, fun i hi => (Hxs i hi).keep K all0, Or.inl ⟨a1, em, em, a2, a3, jC Se0 K all0, fun _ => rfl, fun q => absurd rfl q⟩⟩
 ·
  subst hk1
  obtain ⟨x0a, x1a, rfl⟩ := jlD hxl
  have Veq : Arv Z h0 ea kea (.object S0') (10 : Int32) [(.ref x0a), (.ref x1a), .null, .null, .null, .null, .null, .null, .null, .null] .null := Vea
  have hxs0 : jn Z n0 h0 x0a ((97 : Int32) + (0 : Int32)) := Hxs 0 (by simp)
  have hxs1 : jn Z n0 h0 x1a ((97 : Int32) + (1 : Int32)) := Hxs 1 (by simp)
  exact (jfo l Z a0 hw [] ww mo ea kea x0a x1a h0 n0 Z0 hmo Eww Fwe Fws Eea Veq hxs0.2.1 hxs1.2.1).imp fun v h L q => by
   obtain ⟨wl, rfl, N, K, sz, a1, a2, a3⟩ := q
   exact ⟨wl, [x0a, x1a], rfl, N, K, sz, rfl, fun i hi => (Hxs i hi).keep K all0, Or.inl ⟨a1, x1a, em, a2, a3, jC Se0 K all0, fun q => absurd q (Exa.ne hxs1.2.1 Em1 (by decide)), fun _ => ⟨rfl, rfl⟩⟩⟩
 ·
  subst hk1
  obtain ⟨x0a, x1a, x2a, rfl⟩ := jlE hxl
  have Veq : Arv Z h0 ea kea (.object S0') (10 : Int32) [(.ref x0a), (.ref x1a), (.ref x2a), .null, .null, .null, .null, .null, .null, .null] .null := Vea
  have hxs0 : jn Z n0 h0 x0a ((97 : Int32) + (0 : Int32)) := Hxs 0 (by simp)
  have hxs1 : jn Z n0 h0 x1a ((97 : Int32) + (1 : Int32)) := Hxs 1 (by simp)
  have hxs2 : jn Z n0 h0 x2a ((97 : Int32) + (2 : Int32)) := Hxs 2 (by simp)
  exact (jfr l Z a0 hw [] ww mo ea kea x0a x1a x2a h0 n0 Z0 hmo Eww Fwe Fws Eea Veq hxs0.2.1 hxs1.2.1 hxs2.2.1).imp fun v h L q => by
   obtain ⟨wl, el, kl, rfl, N, K, sz, a1, a2, a3, a4⟩ := q
   exact ⟨wl, [x0a, x1a, x2a], rfl, N, K, sz, rfl, fun i hi => (Hxs i hi).keep K all0, Or.inr ⟨a1, rfl, el, kl, a2, a3, a4⟩⟩
theorem jln {xs : List Addr} {n i : Nat} (hl : xs.length = n) (hn : n < 4) (hi : i < n) : ([.ref (xs.getD 0 0), .ref (xs.getD 1 0), .ref (xs.getD 2 0)] : List Value).getD i .null = .ref (xs.getD i 0) := by
 match i, hi with
 | 0, _ => rfl
 | 1, _ => rfl
 | 2, _ => rfl
 | j + 3, h => omega
def jjs (Z : State) (it wl : Addr) (kk : Int32) (xs : List Addr) (i : Nat) (h0 : Heap) (n0 : Nat) (v : Option Value) (h : Heap) (L : List Loc) : Prop := v = some (.ref (xs.getD i 0)) ∧ Fr n0 L ∧ Keep h0 h [it] ∧ Fld Z h it S6' "list" S14' (.ref wl) ∧ Fld Z h it S6' S8' "I" (.int kk) ∧ Fld Z h it S6' S20' "I" (.int (Int32.ofNat i + (1 : Int32))) ∧ Fld Z h it S6' S28' "Z" (.int 0)
theorem jhS (l : Launch) (Z : State) (a0 : Array Value) (hw : oH a0 Z) (it wl : Addr) (kk : Int32) (xs : List Addr) (i : Nat) (h0 : Heap) (n0 : Nat) (Z0 : n0 ≤ h0.size) (Ei0 : Exa Z h0 it S6') (g_it : n0 ≤ it) (Fi0 : Fld Z h0 it S6' "list" S14' (.ref wl)) (Fi1 : Fld Z h0 it S6' S8' "I" (.int kk)) (Fi2 : Fld Z h0 it S6' S20' "I" (.int (Int32.ofNat i))) (Fi3 : Fld Z h0 it S6' S28' "Z" (.int 0)) (HX : jbF Z n0 h0 wl kk xs) (hk : jaM kk) (hi : i < je kk) :
  MetFree l M15' (head1 [Jvm.Cond.codeWith M15' jdk_53_method_4_code 3 (some (.object S0')) [((0 : Nat), (24 : Nat), (25 : Nat), (30 : Nat))]] ({ frames := 1, cells := 0, slots := 0, locals := 13 } : Room)) (fun a U => a = #[(.ref it)] ∧ Z.Warmed39 U.vm ∧ U.heap = h0) (fun _ _ _ _ _ => True) (fun _ U o U' => ∃ v L, o = .returned v ∧ jjs Z it wl kk xs i h0 n0 v U'.heap L ∧ FrameEnd U o U' L 0 0) := by
 have k4 := (jce hk).2.2.2.2.1
 obtain ⟨hl, H, ⟨e, y, em, f1, f2, s, q1, q2⟩ | ⟨e, q, el, kl, f1, e2, v⟩⟩ := HX
 ·
  refine jfu l Z a0 hw [] it wl (xs.getD 0 0) y em kk (Int32.ofNat i) (xs.getD i 0) h0 n0 Z0 Ei0 g_it Fi0 Fi1 Fi2 Fi3 e f1 f2 s ?_ ?_
  ·
   intro z
   have q := (jU i (by omega) 0 (by decide)).2.2.2
   rw [z] at q
   have q' : i = 0 := q.symm
   rw [q']
  ·
   intro z
   by_cases c : y = em
   ·
    obtain rfl := q1 c
    have k1 : je 1 = 1 := rfl
    have i0 : i = 0 := by omega
    exact absurd (by rw [i0]; rfl) z
   ·
    obtain ⟨rfl, q⟩ := q2 c
    have k1 : je 2 = 2 := rfl
    rcases (by omega : i = 0 ∨ i = 1) with i0 | i0
    · exact absurd (by rw [i0]; rfl) z
    · rw [i0]; exact ⟨rfl, q, c⟩
 ·
  subst q
  have qi := jU i (by omega) 3 (by decide)
  exact jfx l Z a0 hw [] it wl el kl (xs.getD 0 0) (xs.getD 1 0) (xs.getD 2 0) 3 (Int32.ofNat i) (xs.getD i 0) h0 n0 Z0 Ei0 g_it Fi0 Fi1 Fi2 Fi3 e f1 v ⟨qi.2.2.1, qi.1 hi⟩ (by rw [qi.2.2.2]; exact jln hl k4 hi)
theorem jZ : parseMethodDescriptor "()Ljava/util/Iterator;" = some ⟨[], some (.object "java/util/Iterator")⟩ := by decide +kernel
theorem jlo {wl : Addr} {kk : Int32} {n0 : Nat} (hw : oH a0 Z) (X : Stand p l e R s m args below meth c T locs cells slots) (hx : p.tables.exec = Jvm.exec) (hZ : Z.Warmed39 s.vm) (hown : s.vm.findClass S7' = some m.cls) (WL : jcg Z h wl kk) (Z0 : n0 ≤ h.size) (eT : T.heap = h) {g : JFrame} (hg : g.method = m) (hsize : g.locals.size = c.maxLocals) {rest : List Value} (hs : g.stack = .ref wl :: rest) {W : Nat} (hW : 2 * g.monitorRoom + (rest.map fun v => v.category).sum ≤ W) (hd : decode c.code g.pc = .ok (.invokeinterface 46 1, 5)) (hR : 2 + 1 ≤ R.frames ∧ W + (1 + 11) + 27 ≤ R.locals ∧ cells + 1 ≤ R.cells ∧ slots + 4 ≤ R.slots) :
  ∃ it T' L', Stand p l e R s m args below meth c T' (locs ++ L') (cells + 1) (slots + 4) ∧ (Fr n0 L' ∧ Keep h T'.heap [] ∧ h.size ≤ it ∧ Exa Z T'.heap it S6' ∧ Fld Z T'.heap it S6' "list" S14' (.ref wl) ∧ Fld Z T'.heap it S6' S8' "I" (.int kk) ∧ Fld Z T'.heap it S6' S20' "I" (.int 0) ∧ Fld Z T'.heap it S6' S28' "Z" (.int 0)) ∧ ∀ t, Steps p.tables e below (T'.setTop { g with pc := g.pc + 5, stack := .ref it :: rest }) t → Steps p.tables e below (T.setTop g) t := by
 rcases WL with ⟨e1, x0a, y1a, em, f1, f2, s1, q1, q2⟩ | ⟨e1, rfl, el, kl, x0a, x1a, x2a, f1, -, v1⟩
 ·
  obtain ⟨v, T', L', X', hQ, st⟩ := jaI X hx hZ hown (ow hw 252 rfl) (ow hw 253 rfl) (ow hw 255 rfl) (ow hw 256 rfl) (mvT hZ (ow hw 254 rfl)) (ow hw 257 rfl) (ow hw 258 rfl) (ow hw 259 rfl) (ow hw 260 rfl) (ow hw 232 rfl) (jfs l Z a0 hw [] wl x0a y1a em kk h n0 Z0 e1 f1 f2 s1 q1 q2) eT e1 (by decide) hg hsize (rest := rest) rfl (lenOf jZ rfl) hs (W := W) hW hd hR
  obtain ⟨it, rfl, r⟩ := hQ
  exact ⟨it, T', L', X', r, st⟩
 ·
  obtain ⟨v, T', L', X', hQ, st⟩ := jaI X hx hZ hown (ow hw 252 rfl) (ow hw 253 rfl) (ow hw 614 rfl) (ow hw 256 rfl) (mvT hZ (ow hw 254 rfl)) (ow hw 257 rfl) (ow hw 615 rfl) (ow hw 616 rfl) (ow hw 260 rfl) (ow hw 232 rfl) (jfv l Z a0 hw [] wl el kl x0a x1a x2a h n0 Z0 e1 f1 v1) eT e1 (by decide) hg hsize (rest := rest) rfl (lenOf jZ rfl) hs (W := W) hW hd hR
  obtain ⟨it, rfl, r⟩ := hQ
  exact ⟨it, T', L', X', r, st⟩
def jbh (Z : State) (n0 : Nat) (h : Heap) (hm : Addr) (i : Nat) : Prop := Exa Z h hm S1' ∧ n0 ≤ hm ∧ ((i = 0 ∧ Fld Z h hm S1' S22' S16' .null ∧ Fld Z h hm S1' S8' "I" (.int 0) ∧ Fld Z h hm S1' S23' "I" (.int 0) ∧ Fld Z h hm S1' S12' "I" (.int 0)) ∨ (0 < i ∧ ∃ tb kt tvs mc, n0 ≤ tb ∧ (Fld Z h hm S1' S22' S16' (.ref tb) ∧ Fld Z h hm S1' S8' "I" (.int (Int32.ofNat i)) ∧ Fld Z h hm S1' S23' "I" (.int 12) ∧ Fld Z h hm S1' S12' "I" (.int mc)) ∧ Exa Z h tb S16' ∧ Ovr Z kt S5' ∧ Arv Z h tb kt (.object S5') (16 : Int32) tvs .null ∧ tvs.length = 16 ∧ (∀ j, i < j → tvs.getD j .null = .null) ∧ ∀ w, w < i → jdG Z n0 h tvs (Int32.ofNat w)))
theorem jdG.ext {Z : State} {n0 : Nat} {h h' : Heap} {tvs : List Value} {w : Int32} (N : jdG Z n0 h tvs w) (E : Ext h h') : jdG Z n0 h' tvs w := by
 obtain ⟨nd, ks, vl, q, e3, f2, f3, s, f4, bx⟩ := N
 exact ⟨nd, ks, vl, q, e3.ext E, f2.ext E, f3.ext E, s.ext E, f4.ext E, bx.ext E⟩
theorem jbh.ext {Z : State} {n0 : Nat} {h h' : Heap} {hm : Addr} {i : Nat} (M : jbh Z n0 h hm i) (E : Ext h h') : jbh Z n0 h' hm i := by
 obtain ⟨e, g, ⟨q, f1, f2, f3, f4⟩ | ⟨q, tb, kt, tvs, mc, gt, ⟨f1, f2, f3, f4⟩, e2, o, v, hl, hz, H⟩⟩ := M
 · exact ⟨e.ext E, g, Or.inl ⟨q, f1.ext E, f2.ext E, f3.ext E, f4.ext E⟩⟩
 · exact ⟨e.ext E, g, Or.inr ⟨q, tb, kt, tvs, mc, gt, ⟨f1.ext E, f2.ext E, f3.ext E, f4.ext E⟩, e2.ext E, o, v.ext E, hl, hz, fun w hw => (H w hw).ext E⟩⟩
theorem jbh.keep {Z : State} {n0 : Nat} {h h' : Heap} {hm : Addr} {i : Nat} {ws : List Addr} (M : jbh Z n0 h hm i) (K : Keep h h' ws) (N : ∀ x ∈ ws, jab Z h x [S2', "[B", S35', S37', S1', S16', S5']) : jbh Z n0 h' hm i := by
 obtain ⟨e, g, ⟨q, f1, f2, f3, f4⟩ | ⟨q, tb, kt, tvs, mc, gt, ⟨f1, f2, f3, f4⟩, e2, o, v, hl, hz, H⟩⟩ := M
 ·
  have n1 := jV N e (by simp)
  exact ⟨e.keep K, g, Or.inl ⟨q, f1.keep K n1, f2.keep K n1, f3.keep K n1, f4.keep K n1⟩⟩
 ·
  have n1 := jV N e (by simp)
  exact ⟨e.keep K, g, Or.inr ⟨q, tb, kt, tvs, mc, gt, ⟨f1.keep K n1, f2.keep K n1, f3.keep K n1, f4.keep K n1⟩, e2.keep K, o, v.keep K (jV N e2 (by simp)), hl, hz, fun w hw => by
   obtain ⟨nd, ks, vl, q, e3, f2, f3, s, f4, bx⟩ := H w hw
   have nn := jV N e3 (by simp)
   exact ⟨nd, ks, vl, q, e3.keep K, f2.keep K nn, f3.keep K nn, s.keep K (jbC N (by simp)), f4.keep K nn, bx.keep K (jbC N (by simp))⟩⟩⟩
theorem jbh.size {Z : State} {n0 : Nat} {h : Heap} {hm : Addr} {i : Nat} (M : jbh Z n0 h hm i) : Fld Z h hm S1' S8' "I" (.int (Int32.ofNat i)) := by
 obtain ⟨e, g, ⟨rfl, f1, f2, f3, f4⟩ | ⟨q, tb, kt, tvs, mc, gt, ⟨f1, f2, f3, f4⟩, e2, o, v, hl, hz, H⟩⟩ := M
 · exact f2
 · exact f2
theorem jdx : ∀ i, i < 3 → ((15 : Int32) &&& ((97 : Int32) + Int32.ofNat i)).toNatClampNeg = i + 1 ∧ ¬ (12 : Int32) < Int32.ofNat i + 1 := by decide
theorem jjt : ∀ i, i < 3 → jaf (Int32.ofNat i)
 | 0, _ => Or.inl rfl
 | 1, _ => Or.inr (Or.inl rfl)
 | 2, _ => Or.inr (Or.inr rfl)
theorem jbh.map {Z : State} {n0 : Nat} {h : Heap} {hm : Addr} {kk : Int32} (hk : jaM kk) (M : jbh Z n0 h hm (je kk)) : jbl Z n0 h hm kk := by
 have k0 := (jce hk).2.2.2.2.2.1
 obtain ⟨e, g, ⟨q, -⟩ | ⟨-, tb, kt, tvs, mc, gt, ⟨f1, -⟩, e2, -, v, -, -, H⟩⟩ := M
 · omega
 ·
  refine ⟨tb, kt, tvs, e, f1, e2, v, fun w h3 hl => ?_⟩
  have q := jcf hk h3 hl
  have z := H w.toNatClampNeg q.2.2.2.2
  rcases h3 with rfl | rfl | rfl <;> exact z
theorem jbh.step {Z : State} {n0 : Nat} {h h' : Heap} {hm tb nd ps vl : Addr} {kt : ClassId} {i : Nat} {tvs : List Value} {wa : List Addr} {mc : Int32} (hi : i < 3) (K : Keep h h' wa) (N : ∀ y ∈ wa, jdg Z h y [S1', S16', S1'] ∨ y = ps) (S0 : jn Z n0 h ps ((97 : Int32) + Int32.ofNat i)) (S1 : jn Z n0 h' ps ((97 : Int32) + Int32.ofNat i)) (B : jaW Z h vl (Int32.ofNat i)) (hz : ∀ j, i < j → tvs.getD j .null = .null) (hl : tvs.length = 16) (H : ∀ w, w < i → jdG Z n0 h tvs (Int32.ofNat w))
  (e : Exa Z h' hm S1') (g : n0 ≤ hm) (gt : n0 ≤ tb) (F : Fld Z h' hm S1' S22' S16' (.ref tb) ∧ Fld Z h' hm S1' S8' "I" (.int (Int32.ofNat i + (1 : Int32))) ∧ Fld Z h' hm S1' S23' "I" (.int 12) ∧ Fld Z h' hm S1' S12' "I" (.int mc)) (e2 : Exa Z h' tb S16') (o : Ovr Z kt S5') (v : Arv Z h' tb kt (.object S5') (16 : Int32) (tvs.set ((15 : Int32) &&& ((97 : Int32) + Int32.ofNat i)).toNatClampNeg (.ref nd)) .null) (e3 : Exa Z h' nd S5') (f2 : Fld Z h' nd S5' "hash" "I" (.int ((97 : Int32) + Int32.ofNat i))) (f3 : Fld Z h' nd S5' "key" S9' (.ref ps)) (f4 : Fld Z h' nd S5' S21' S9' (.ref vl)) : jbh Z n0 h' hm (i + 1) := by
 obtain ⟨F1, F2, F3, F4⟩ := F
 rw [jda] at F2
 rw [(jdx i hi).1] at v
 have nx : ∀ {a : Addr} {D : String}, Exa Z h a D → D ≠ S2' → a ≠ ps := fun e q => Exa.ne e S0.2.1 q
 have B' : jaW Z h' vl (Int32.ofNat i) := ⟨B.1.keep K, B.2.keep K (jbQ N B.1 (by decide) (nx B.1 (by decide)))⟩
 refine ⟨e, g, Or.inr ⟨Nat.succ_pos _, tb, kt, _, mc, gt, ⟨F1, F2, F3, F4⟩, e2, o, v, by simp [hl], fun j hj => ?_, fun w hw => ?_⟩⟩
 · rw [List.getD_eq_getElem?_getD, List.getElem?_set_ne (by omega), ← List.getD_eq_getElem?_getD]; exact hz j (by omega)
 ·
  by_cases q : w = i
  ·
   subst q
   exact ⟨nd, ps, vl, by rw [(jdx w hi).1, List.getD_eq_getElem?_getD, List.getElem?_set_self (by omega)]; rfl, e3, f2, f3, S1, f4, B'⟩
  ·
   obtain ⟨nd', ks, vl', q1, e4, g2, g3, s, g4, bx⟩ := H w (by omega)
   have nn := jbQ N e4 (by decide) (nx e4 (by decide))
   exact ⟨nd', ks, vl', by rw [(jdx w (by omega)).1] at q1 ⊢; rw [List.getD_eq_getElem?_getD, List.getElem?_set_ne (by omega), ← List.getD_eq_getElem?_getD]; exact q1, e4.keep K, g2.keep K nn, g3.keep K nn, s.keepW K (jfZ N (by decide)) S0 S1, g4.keep K nn, bx.1.keep K, bx.2.keep K (jbQ N bx.1 (by decide) (nx bx.1 (by decide)))⟩
theorem jhT (l : Launch) (Z : State) (a0 : Array Value) (hw : oH a0 Z) (ws : List Jvm.Cond) (hm ps vl : Addr) (cz : Int32) (i : Nat) (h0 : Heap) (n0 : Nat) (Z0 : n0 ≤ h0.size) (Sc0 : Sta Z h0 S2' S26' "Z" (.int cz)) (hcz : ¬ cz = (0 : Int32)) (HS0 : jn Z n0 h0 ps ((97 : Int32) + Int32.ofNat i)) (HM0 : jbh Z n0 h0 hm i) (hi : i < 3) (HB : jaW Z h0 vl (Int32.ofNat i)) :
  ji l Z M3' jdk_69_method_31_code 3 (some (.object S0')) [] ({ frames := 4, cells := 2, slots := 20, locals := 71 } : Room) #[(.ref hm), (.ref ps), (.ref vl)] h0 (fun v h L => v = some .null ∧ Fr n0 L ∧ (∃ wa, Keep h0 h wa ∧ ∀ y ∈ wa, jdg Z h0 y [S1', S16', S1'] ∨ y = ps) ∧ jbh Z n0 h hm (i + 1) ∧ jn Z n0 h ps ((97 : Int32) + Int32.ofNat i) ∧ Sta Z h S2' S26' "Z" (.int cz)) := by
 have hcc := jdS (jjt i hi)
 obtain ⟨e, g, ⟨rfl, f1, f2, f3, f4⟩ | ⟨q, tb, kt, tvs, mc, gt, ⟨f1, f2, f3, f4⟩, e2, o, v, hl, hz, H⟩⟩ := HM0
 ·
  refine (jeS l Z a0 hw [] hm ps vl cz _ h0 n0 Z0 Sc0 hcz HS0 e g f1 f2 f3 f4 hcc).imp fun v h L q => ?_
  obtain ⟨tb, kt, nd, rfl, N, K, s1, s2, a0, a1, a2, a3, a4, a5, a6, a7, a8, a9, a10, -, a12, a13⟩ := q
  have NN : ∀ y ∈ [hm, ps], jdg Z h0 y [S1', S16', S1'] ∨ y = ps := allS (Or.inl ⟨_, e, by decide⟩) (allS (Or.inr rfl) all0)
  exact ⟨rfl, N, ⟨_, K, NN⟩, jbh.step (i := 0) (by decide) K NN HS0 a12 HB (fun j _ => by match j with | 0 | 1 | 2 | 3 | 4 | 5 | 6 | 7 | 8 | 9 | 10 | 11 | 12 | 13 | 14 | 15 => rfl | j + 16 => rfl) rfl (fun w hw => absurd hw (Nat.not_lt_zero _)) (e.keep K) g (Nat.le_trans Z0 s1) ⟨a3, a4, a5, a6⟩ a0 a1 a2 a7 a8 a9 a10, a12, a13⟩
 ·
  refine (jeT l Z a0 hw [] hm ps vl cz _ tb kt tvs (Int32.ofNat i) mc h0 n0 Z0 Sc0 hcz HS0 e g f1 f2 f3 f4 hcc e2 o v gt hl (by rw [(jdx i hi).1]; exact hz _ (Nat.lt_succ_self _)) (jdx i hi).2).imp fun v h L q => ?_
  obtain ⟨nd, rfl, N, K, s2, a2, a3, a4, a5, a6, a7, a8, a9, a10, -, a12, a13⟩ := q
  have NN : ∀ y ∈ [hm, tb, ps], jdg Z h0 y [S1', S16', S1'] ∨ y = ps := allS (Or.inl ⟨_, e, by decide⟩) (allS (Or.inl ⟨_, e2, by decide⟩) (allS (Or.inr rfl) all0))
  exact ⟨rfl, N, ⟨_, K, NN⟩, jbh.step hi K NN HS0 a12 HB hz hl H (e.keep K) g gt ⟨a3, a4, a5, a6⟩ (e2.keep K) o a2 a7 a8 a9 a10, a12, a13⟩
def jch (Z : State) (n0 : Nat) (h : Heap) (pp sl pea ca de em : Addr) (cz mc : Int32) (nn : Nat) (ss ds : List Int32) : Prop := Exa Z h pp S3' ∧ Fld Z h pp S3' S8' "I" (.int (Int32.ofNat nn)) ∧ Fld Z h pp S3' S15' S4' (.ref pea) ∧ jbg Z n0 h pea nn ss ds ∧ Exa Z h sl S3' ∧ Fld Z h sl S3' S8' "I" (.int 0) ∧ Fld Z h sl S19' S12' "I" (.int mc) ∧ jcd Z h ca ∧ Sta Z h S2' S26' "Z" (.int cz) ∧ Sta Z h S3' S50' S4' (.ref de) ∧ Sta Z h S29' "EMPTY" S9' (.ref em) ∧ Exa Z h em S0' ∧ Sta Z h S10' S55' "Z" (.int 1)
theorem jch.ext {Z : State} {n0 : Nat} {h h' : Heap} {pp sl pea ca de em : Addr} {cz mc : Int32} {nn : Nat} {ss ds : List Int32} (G : jch Z n0 h pp sl pea ca de em cz mc nn ss ds) (E : Ext h h') : jch Z n0 h' pp sl pea ca de em cz mc nn ss ds := by
 obtain ⟨a, b, c, d, e, f, g, i, j, k, l, m, n⟩ := G
 exact ⟨a.ext E, b.ext E, c.ext E, d.ext E, e.ext E, f.ext E, g.ext E, i.ext E, j.ext E, k.ext E, l.ext E, m.ext E, n.ext E⟩
theorem jch.keep {Z : State} {n0 : Nat} {h h' : Heap} {pp sl pea ca de em : Addr} {cz mc : Int32} {nn : Nat} {ss ds : List Int32} {ws : List Addr} (G : jch Z n0 h pp sl pea ca de em cz mc nn ss ds) (K : Keep h h' ws) (N : ∀ x ∈ ws, jab Z h x [S2', "[B", S18', S4', S3', S35', S37']) : jch Z n0 h' pp sl pea ca de em cz mc nn ss ds := by
 obtain ⟨a, b, c, d, e, f, g, i, j, k, l, m, n⟩ := G
 have na := jV N a (by simp)
 have ne := jV N e (by simp)
 have ns := jab.ns N
 exact ⟨a.keep K, b.keep K na, c.keep K na, d.keep K (jbC N (by simp)), e.keep K, f.keep K ne, g.keep K ne, i.keep K (jbC N (by simp)), jC j K ns, jC k K ns, jC l K ns, m.keep K, jC n K ns⟩
theorem jch.keepW {Z : State} {n0 : Nat} {h h' : Heap} {pp sl pea ca de em : Addr} {cz mc : Int32} {nn : Nat} {ss ds : List Int32} {ws : List Addr} {x : Addr} {w : Int32} (G : jch Z n0 h pp sl pea ca de em cz mc nn ss ds) (K : Keep h h' ws) (N : ∀ y ∈ ws, jab Z h y [S2', "[B", S18', S4', S3', S35', S37'] ∨ y = x) (S0 : jn Z n0 h x w) (S1 : jn Z n0 h' x w) : jch Z n0 h' pp sl pea ca de em cz mc nn ss ds := by
 obtain ⟨a, b, c, d, e, f, g, i, j, k, l, m, n⟩ := G
 have nw : ∀ {y : Addr} {D : String}, Exa Z h y D → D ∈ [S2', "[B", S18', S4', S3', S35', S37'] → D ≠ S2' → y ∉ ws := fun ey hD hn hm => by
  rcases N _ hm with ⟨C, e, hC⟩ | z
  · exact Exa.ne e ey (fun z => hC (z ▸ hD)) rfl
  · exact Exa.ne ey S0.2.1 hn z
 have nt : ∀ y ∈ ws, jab Z h y [S35', S37'] := fun y hy => by
  rcases N y hy with ⟨C, e, hC⟩ | z
  · exact ⟨C, e, fun q => hC (by simp at q ⊢; rcases q with q | q <;> simp [q])⟩
  · rw [z]; exact ⟨_, S0.2.1, by decide⟩
 have na := nw a (by simp) (by decide)
 have ne := nw e (by simp) (by decide)
 have ns := jab.ns nt
 exact ⟨a.keep K, b.keep K na, c.keep K na, d.keepW K (fun y hy => (N y hy).imp (fun ⟨C, e, hC⟩ => ⟨C, e, fun q => hC (by simp at q ⊢; rcases q with q | q | q | q <;> simp [q])⟩) id) S0 S1, e.keep K, f.keep K ne, g.keep K ne, i.keep K nt, jC j K ns, jC k K ns, jC l K ns, m.keep K, jC n K ns⟩
theorem jch.keepS {Z : State} {n0 : Nat} {h h' : Heap} {pp sl pea ca de em : Addr} {cz mc : Int32} {nn : Nat} {ss ds : List Int32} {x : Addr} {w : Int32} (G : jch Z n0 h pp sl pea ca de em cz mc nn ss ds) (K : Keep h h' [x]) (S0 : jn Z n0 h x w) (S1 : jn Z n0 h' x w) : jch Z n0 h' pp sl pea ca de em cz mc nn ss ds := G.keepW K (allS (Or.inr rfl) all0) S0 S1
theorem jlF {Z : State} {h : Heap} {ws : List Addr} {L M : List String} {x : Addr} (N : ∀ y ∈ ws, jdg Z h y L ∨ y = x) (S : Exa Z h x S2') (q : ∀ y ∈ L, y ∉ M) (q2 : S2' ∉ M) : ∀ y ∈ ws, jab Z h y M := fun y hy => by
 rcases N y hy with ⟨C, e, hC⟩ | z
 · exact ⟨C, e, q _ hC⟩
 · rw [z]; exact ⟨_, S, q2⟩
theorem jlp {n : Nat} {j : Int32} (hn : n ≤ 3) (h : ¬ j < 0 ∧ j < Int32.ofNat n) : j.toNatClampNeg < n := by
 have q := inb_of (c := { cls := 0, slots := Array.replicate n .null, vm := .none }) (z := Int32.ofNat n) (j := j) (by rw [(jcD hn).2.1]; simp) h
 exact Nat.lt_of_not_le fun z => q (Or.inr (by simpa using z))
abbrev jd (m : MethodId) (pc : Nat) (a0 a1 a2 a3 a4 a5 a6 a7 a8 a9 a10 : Slot) (S : List Value) : JFrame := mkF m pc #[a0, a1, a2, a3, a4, a5, a6, a7, a8, a9, a10] S
theorem oD42_1p : oDec prog_42_method_1_code [(0, .aload_n 0, 1), (1, .invokespecial 1, 3), (4, .aload_n 0, 1), (5, .new 7, 3), (8, .dup, 1), (9, .invokespecial 9, 3), (12, .putfield 10, 3), (15, .aload_n 0, 1), (16, .new 16, 3), (19, .dup, 1), (20, .invokespecial 18, 3), (23, .putfield 19, 3), (26, .aload_n 0, 1), (27, .aload_n 1, 1), (28, .ldc 23, 2), (30, .invokestatic 25, 3), (33, .checkcast 31, 3), (36, .putfield 33, 3), (39, .aload_n 0, 1), (40, .aload_n 2, 1), (41, .invokestatic 36, 3), (44, .putfield 42, 3), (47, .aload_n 0, 1), (48, .getfield 42, 3), (51, .invokeinterface 46 1, 5), (56, .astore 5, 2), (58, .aload 5, 2), (60, .invokeinterface 50 1, 5), (65, .ifCond .eq 60, 3), (68, .aload 5, 2), (70, .invokeinterface 56 1, 5), (75, .checkcast 31, 3), (78, .astore 6, 2), (80, .aload_n 0, 1), (81, .getfield 10, 3), (84, .aload 6, 2), (86, .aload_n 0, 1), (87, .getfield 10, 3), (90, .invokeinterface 60 1, 5), (95, .invokestatic 66, 3), (98, .invokeinterface 72 3, 5), (103, .ifnull 19, 3), (106, .new 76, 3), (109, .dup, 1), (110, .aload_n 1, 1), (111, .aload 6, 2), (118, .invokespecial 82, 3), (121, .athrow, 1), (122, .goto (-64), 3), (125, .aload_n 0, 1), (126, .aload_n 3, 1), (127, .invokeinterface 85 1, 5), (132, .newarray .int, 2), (134, .putfield 86, 3), (137, .aload_n 0, 1), (138, .aload_n 3, 1), (139, .invokeinterface 85 1, 5), (144, .newarray .int, 2), (146, .putfield 90, 3), (149, .iconst 0, 1), (150, .istore 5, 2), (152, .iload 5, 2), (154, .aload_n 3, 1), (155, .invokeinterface 85 1, 5), (160, .if_icmp .ge 112, 3), (163, .aload_n 3, 1), (164, .iload 5, 2), (166, .invokeinterface 93 2, 5), (171, .checkcast 97, 3), (174, .astore 6, 2), (176, .aload_n 0, 1), (177, .getfield 86, 3), (180, .iload 5, 2), (182, .aload_n 0, 1), (183, .aload 6, 2), (185, .invokevirtual 99, 3), (188, .invokevirtual 103, 3), (191, .iastore, 1), (192, .aload_n 0, 1), (193, .getfield 90, 3), (196, .iload 5, 2), (198, .aload_n 0, 1), (199, .aload 6, 2), (201, .invokevirtual 107, 3), (204, .invokevirtual 103, 3), (207, .iastore, 1), (208, .aload_n 0, 1), (209, .getfield 86, 3), (212, .iload 5, 2), (214, .iaload, 1), (215, .ifCond .lt 13, 3), (218, .aload_n 0, 1), (219, .getfield 90, 3), (222, .iload 5, 2), (224, .iaload, 1), (225, .ifCond .ge 27, 3), (228, .new 76, 3), (231, .dup, 1), (232, .aload 6, 2), (234, .invokevirtual 99, 3), (237, .aload 6, 2), (239, .invokevirtual 107, 3), (242, .aload_n 1, 1), (248, .invokespecial 82, 3), (251, .athrow, 1), (252, .aload_n 0, 1), (253, .getfield 19, 3), (256, .aload_n 0, 1), (257, .getfield 90, 3), (260, .iload 5, 2), (262, .iaload, 1), (263, .invokevirtual 113, 3), (266, .iinc 5 1, 3), (269, .goto (-117), 3), (272, .aload_n 0, 1), (273, .aload_n 0, 1), (274, .getfield 42, 3), (277, .invokeinterface 85 1, 5), (282, .iconst 1, 1), (283, .iadd, 1), (284, .newarray .int, 2), (286, .putfield 117, 3), (289, .aload_n 0, 1), (290, .getfield 86, 3), (293, .astore 5, 2), (295, .aload 5, 2), (297, .arraylength, 1), (298, .istore 6, 2), (300, .iconst 0, 1), (301, .istore 7, 2), (303, .iload 7, 2), (305, .iload 6, 2), (307, .if_icmp .ge 29, 3), (310, .aload 5, 2), (312, .iload 7, 2), (314, .iaload, 1), (315, .istore 8, 2), (317, .aload_n 0, 1), (318, .getfield 117, 3), (321, .iload 8, 2), (323, .iconst 1, 1), (324, .iadd, 1), (325, .dup2, 1), (326, .iaload, 1), (327, .iconst 1, 1), (328, .iadd, 1), (329, .iastore, 1), (330, .iinc 7 1, 3), (333, .goto (-30), 3), (336, .iconst 0, 1), (337, .istore 5, 2), (339, .iload 5, 2), (341, .aload_n 0, 1), (342, .getfield 42, 3), (345, .invokeinterface 85 1, 5), (350, .if_icmp .ge 28, 3), (353, .aload_n 0, 1), (354, .getfield 117, 3), (357, .iload 5, 2), (359, .iconst 1, 1), (360, .iadd, 1), (361, .dup2, 1), (362, .iaload, 1), (363, .aload_n 0, 1), (364, .getfield 117, 3), (367, .iload 5, 2), (369, .iaload, 1), (370, .iadd, 1), (371, .iastore, 1), (372, .iinc 5 1, 3), (375, .goto (-36), 3), (378, .aload_n 0, 1), (379, .aload_n 0, 1), (380, .getfield 86, 3), (383, .arraylength, 1), (384, .newarray .int, 2), (386, .putfield 120, 3), (389, .aload_n 0, 1), (390, .getfield 117, 3), (393, .aload_n 0, 1), (394, .getfield 42, 3), (397, .invokeinterface 85 1, 5), (402, .invokestatic 123, 3), (405, .astore 5, 2), (407, .iconst 0, 1), (408, .istore 6, 2), (410, .iload 6, 2), (412, .aload_n 0, 1), (413, .getfield 86, 3), (416, .arraylength, 1), (417, .if_icmp .ge 31, 3), (420, .aload_n 0, 1), (421, .getfield 120, 3), (424, .aload 5, 2), (426, .aload_n 0, 1), (427, .getfield 86, 3), (430, .iload 6, 2), (432, .iaload, 1), (433, .dup2, 1), (434, .iaload, 1), (435, .dup_x2, 1), (436, .iconst 1, 1), (437, .iadd, 1), (438, .iastore, 1), (439, .iload 6, 2), (441, .iastore, 1), (442, .iinc 6 1, 3), (445, .goto (-35), 3), (448, .new 128, 3), (451, .dup, 1), (452, .invokespecial 130, 3), (455, .astore 6, 2), (457, .aload 4, 2), (459, .invokeinterface 46 1, 5), (464, .astore 7, 2), (466, .aload 7, 2), (468, .invokeinterface 50 1, 5), (473, .ifCond .eq 198, 3), (476, .aload 7, 2), (478, .invokeinterface 56 1, 5), (483, .checkcast 131, 3), (486, .astore 8, 2), (488, .aload 8, 2), (490, .invokevirtual 133, 3), (493, .invokeinterface 137 1, 5), (498, .invokeinterface 141 1, 5), (503, .astore 9, 2), (505, .aload 9, 2), (507, .invokeinterface 50 1, 5), (512, .ifCond .eq 84, 3), (515, .aload 9, 2), (517, .invokeinterface 56 1, 5), (522, .checkcast 144, 3), (525, .astore 10, 2), (527, .aload_n 0, 1), (528, .aload 10, 2), (530, .invokeinterface 146 1, 5), (535, .checkcast 31, 3), (538, .invokevirtual 103, 3), (541, .ifCond .ge 52, 3), (544, .new 76, 3), (547, .dup, 1), (548, .aload 10, 2), (550, .invokeinterface 149 1, 5), (555, .checkcast 31, 3), (558, .aload 8, 2), (560, .invokevirtual 152, 3), (563, .aload 8, 2), (565, .invokevirtual 155, 3), (568, .aload 8, 2), (570, .invokevirtual 158, 3), (573, .aload_n 1, 1), (574, .aload 10, 2), (576, .invokeinterface 146 1, 5), (581, .checkcast 31, 3), (589, .invokespecial 82, 3), (592, .athrow, 1), (593, .goto (-88), 3), (596, .aload 8, 2), (598, .invokevirtual 164, 3), (601, .aload 8, 2), (603, .invokevirtual 152, 3), (606, .aload 8, 2), (608, .invokevirtual 155, 3), (611, .aload 8, 2), (613, .invokevirtual 158, 3), (616, .aload 6, 2), (618, .invokestatic 167, 3), (621, .ifnull 37, 3), (624, .new 76, 3), (627, .dup, 1), (628, .aload_n 1, 1), (629, .aload 8, 2), (631, .invokevirtual 152, 3), (634, .aload 8, 2), (636, .invokevirtual 164, 3), (639, .aload 8, 2), (641, .invokevirtual 155, 3), (644, .aload 8, 2), (646, .invokevirtual 158, 3), (654, .invokespecial 82, 3), (657, .athrow, 1), (658, .aload 6, 2), (660, .aload 8, 2), (662, .invokeinterface 174 2, 5), (667, .pop, 1), (668, .goto (-202), 3), (671, .aload_n 0, 1), (672, .aload 6, 2), (674, .invokestatic 178, 3), (677, .putfield 184, 3), (680, .return_, 1)] := by decide +kernel
theorem jkB {a0 : Array Value} {Z : State} (hw : oH a0 Z) : jc Z S7' S42' S43' ≠ jc Z S7' S48' S49' := jg (C := S7') (Or.inr (ow hw 135 rfl)) (Or.inr (ow hw 159 rfl)) (by decide) rfl rfl
theorem jkC {a0 : Array Value} {Z : State} (hw : oH a0 Z) : jc Z S7' S42' S43' ≠ jc Z S7' "name" S25' := jg (C := S7') (Or.inr (ow hw 135 rfl)) (Or.inr (ow hw 164 rfl)) (by decide) rfl rfl
theorem jkD {a0 : Array Value} {Z : State} (hw : oH a0 Z) : jc Z S7' S48' S49' ≠ jc Z S7' "name" S25' := jg (C := S7') (Or.inr (ow hw 159 rfl)) (Or.inr (ow hw 164 rfl)) (by decide) rfl rfl
theorem jga {a0 : Array Value} {Z : State} (hw : oH a0 Z) : jc Z S7' S42' S43' ≠ jc Z S7' "wires" S14' := jg (C := S7') (Or.inr (ow hw 135 rfl)) (Or.inr (ow hw 251 rfl)) (by decide) rfl rfl
theorem jgb {a0 : Array Value} {Z : State} (hw : oH a0 Z) : jc Z S7' S48' S49' ≠ jc Z S7' "wires" S14' := jg (C := S7') (Or.inr (ow hw 159 rfl)) (Or.inr (ow hw 251 rfl)) (by decide) rfl rfl
theorem jgc {a0 : Array Value} {Z : State} (hw : oH a0 Z) : jc Z S7' S42' S43' ≠ jc Z S7' S36' "[I" := jg (C := S7') (Or.inr (ow hw 135 rfl)) (Or.inr (ow hw 409 rfl)) (by decide) rfl rfl
theorem jgd {a0 : Array Value} {Z : State} (hw : oH a0 Z) : jc Z S7' S48' S49' ≠ jc Z S7' S36' "[I" := jg (C := S7') (Or.inr (ow hw 159 rfl)) (Or.inr (ow hw 409 rfl)) (by decide) rfl rfl
theorem jge {a0 : Array Value} {Z : State} (hw : oH a0 Z) : jc Z S7' "wires" S14' ≠ jc Z S7' S36' "[I" := jg (C := S7') (Or.inr (ow hw 251 rfl)) (Or.inr (ow hw 409 rfl)) (by decide) rfl rfl
theorem jgf {a0 : Array Value} {Z : State} (hw : oH a0 Z) : jc Z S7' S42' S43' ≠ jc Z S7' S53' "[I" := jg (C := S7') (Or.inr (ow hw 135 rfl)) (Or.inr (ow hw 411 rfl)) (by decide) rfl rfl
theorem jgg {a0 : Array Value} {Z : State} (hw : oH a0 Z) : jc Z S7' S48' S49' ≠ jc Z S7' S53' "[I" := jg (C := S7') (Or.inr (ow hw 159 rfl)) (Or.inr (ow hw 411 rfl)) (by decide) rfl rfl
theorem jgh {a0 : Array Value} {Z : State} (hw : oH a0 Z) : jc Z S7' "wires" S14' ≠ jc Z S7' S53' "[I" := jg (C := S7') (Or.inr (ow hw 251 rfl)) (Or.inr (ow hw 411 rfl)) (by decide) rfl rfl
theorem jgi {a0 : Array Value} {Z : State} (hw : oH a0 Z) : jc Z S7' S36' "[I" ≠ jc Z S7' S53' "[I" := jg (C := S7') (Or.inr (ow hw 409 rfl)) (Or.inr (ow hw 411 rfl)) (by decide) rfl rfl
theorem jgj {a0 : Array Value} {Z : State} (hw : oH a0 Z) : jc Z S7' "wires" S14' ≠ jc Z S7' S41' "[I" := jg (C := S7') (Or.inr (ow hw 251 rfl)) (Or.inr (ow hw 506 rfl)) (by decide) rfl rfl
theorem jkE {a0 : Array Value} {Z : State} (hw : oH a0 Z) : jc Z S7' S36' "[I" ≠ jc Z S7' S41' "[I" := jg (C := S7') (Or.inr (ow hw 409 rfl)) (Or.inr (ow hw 506 rfl)) (by decide) rfl rfl
theorem jkF {a0 : Array Value} {Z : State} (hw : oH a0 Z) : jc Z S7' "wires" S14' ≠ jc Z S7' "pipsFrom" "[I" := jg (C := S7') (Or.inr (ow hw 251 rfl)) (Or.inr (ow hw 508 rfl)) (by decide) rfl rfl
theorem jgk {a0 : Array Value} {Z : State} (hw : oH a0 Z) : jc Z S7' S36' "[I" ≠ jc Z S7' "pipsFrom" "[I" := jg (C := S7') (Or.inr (ow hw 409 rfl)) (Or.inr (ow hw 508 rfl)) (by decide) rfl rfl
theorem jkG {a0 : Array Value} {Z : State} (hw : oH a0 Z) : jc Z S7' S41' "[I" ≠ jc Z S7' "pipsFrom" "[I" := jg (C := S7') (Or.inr (ow hw 506 rfl)) (Or.inr (ow hw 508 rfl)) (by decide) rfl rfl
theorem jcT : parseMethodDescriptor "([II)[I" = some ⟨[(.array .int), .int], some (.array .int)⟩ := by decide +kernel
theorem jao : parseMethodDescriptor "(Ljava/util/List;)Ljava/util/List;" = some ⟨[(.object "java/util/List")], some (.object "java/util/List")⟩ := by decide +kernel
theorem jkH {a0 : Array Value} {Z : State} (hw : oH a0 Z) : jc Z S7' S41' "[I" ≠ jc Z S7' "sites" S14' := jg (C := S7') (Or.inr (ow hw 506 rfl)) (Or.inr (ow hw 583 rfl)) (by decide) rfl rfl
theorem jav : parseMethodDescriptor "()Ljava/lang/String;" = some ⟨[], some (.object "java/lang/String")⟩ := by decide +kernel
theorem jaq : parseMethodDescriptor "(Ljava/lang/String;)I" = some ⟨[(.object "java/lang/String")], some .int⟩ := by decide +kernel
theorem jbj : parseMethodDescriptor "()Ljava/lang/Object;" = some ⟨[], some (.object "java/lang/Object")⟩ := by decide +kernel
theorem jhU (m : MethodId) (x0 : Addr) (x1 : Addr) (x2 : Addr) (x3 : Addr) (x4 : Addr) : entryFrame m #[(.ref x0), (.ref x1), (.ref x2), (.ref x3), (.ref x4)] 11 = mkF m 0 #[(oR x0), (oR x1), (oR x2), (oR x3), (oR x4), ou, ou, ou, ou, ou, ou] [] := by first | (simp [entryFrame, mkF, argsToLocals, Value.category]; done) | rfl
def jeB (Z : State) (tt : Addr) (ns : Addr) (ww : Addr) (pp : Addr) (sl : Addr) (kk : Int32) (nn : Nat) (ss ds : List Int32) (pea ca de em : Addr) (cz mc : Int32) (ma mu mr mo : Addr) (h0 : Heap) (n0 : Nat) (v : Option Value) (h : Heap) (L : List Loc) : Prop := v = none ∧ Fr n0 L ∧ Exa Z h tt S7' ∧ ∃ (sa : Addr) (ks : ClassId), Fld Z h tt S7' S41' "[I" (.ref sa) ∧ Arv Z h sa ks .int (kk + (1 : Int32)) (oM (jbs kk ss)) (.int 0)
theorem jhV (l : Launch) (Z : State) (a0 : Array Value) (hw : ∀ d ∈ tables_1, d.before a0 Z = true) (ws : List Jvm.Cond) (tt : Addr) (ns : Addr) (ww : Addr) (pp : Addr) (sl : Addr) (kk : Int32) (nn : Nat) (ss ds : List Int32) (pea ca de em : Addr) (cz mc : Int32) (ma mu mr mo : Addr) (h0 : Heap) (n0 : Nat) (Z0 : n0 ≤ h0.size) (Ett : Exa Z h0 tt S7') (g_tt : n0 ≤ tt) (Ktt : jbO h0 tt) (Ens : Exa Z h0 ns S2') (HW : jbP Z n0 h0 ww kk) (hk : jaM kk) (HG : jch Z n0 h0 pp sl pea ca de em cz mc nn ss ds) (hcz : ¬ cz = (0 : Int32)) (hn3 : nn ≤ 3) (hsl : ss.length = nn) (hdl : ds.length = nn) (hos : ∀ i, i < nn → jaf (ss.getD i 0) ∧ ss.getD i 0 < kk) (hod : ∀ i, i < nn → jaf (ds.getD i 0) ∧ ds.getD i 0 < kk) (hbd : ∀ i, i < nn → ¬ ((jak ((jG (jw (je kk + 1) ss nn) (je kk)).take (je kk)) ss i).getD (ss.getD i 0).toNatClampNeg 0) < 0 ∧ ((jak ((jG (jw (je kk + 1) ss nn) (je kk)).take (je kk)) ss i).getD (ss.getD i 0).toNatClampNeg 0) < Int32.ofNat nn) (hma : Mir Z S3' ma) (hmu : Mir Z S34' mu) (hmr : Mir Z S45' mr) (hmo : Mir Z S4' mo) :
  MetFree l M20' (head1 (Jvm.Cond.code M20' prog_42_method_1_code 11 none :: ws) ({ frames := 9, cells := 23, slots := 129, locals := 130 } : Room)) (fun a U => a = #[(.ref tt), (.ref ns), (.ref ww), (.ref pp), (.ref sl)] ∧ Z.Warmed39 U.vm ∧ U.heap = h0) (fun _ _ _ _ _ => True) (fun _ U o U' => ∃ v L, o = .returned v ∧ jeB Z tt ns ww pp sl kk nn ss ds pea ca de em cz mc ma mu mr mo h0 n0 v U'.heap L ∧ ReturnedEndW U o U' L ({ frames := 9, cells := 23, slots := 129, locals := 130 } : Room).cells ({ frames := 9, cells := 23, slots := 129, locals := 130 } : Room).slots) := by
 refine MetFree.of_bodySF (plainFor_of_name jJ) hisR ?_
 intro p e s m args below meth c s₁ Bd hml0 hP hKq_
 obtain ⟨rfl, hZ, hh⟩ := hP
 have hx := Bd.exec
 have hby := Bd.bytes
 have dd := oD42_1p.hb hby
 have hml : c.maxLocals = 11 := hml0
 have hown : s.vm.findClass S7' = some m.cls := findClass_of_methodNamed Bd.named
 have hnm := (name_of_methodNamed Bd.named Bd.method).1
 have ow2 := ow hw 2 rfl
 have ow3 := ow hw 3 rfl
 have ow5 := ow hw 5 rfl
 have ow6 := ow hw 6 rfl
 have ow20 := ow hw 20 rfl
 have ow21 := ow hw 21 rfl
 have ow23 := ow hw 23 rfl
 have ow26 := ow hw 26 rfl
 have ow63 := ow hw 63 rfl
 have ow88 := ow hw 88 rfl
 have ow102 := ow hw 102 rfl
 have ow103 := ow hw 103 rfl
 have ow104 := ow hw 104 rfl
 have ow112 := ow hw 112 rfl
 have ow113 := ow hw 113 rfl
 have ow117 := ow hw 117 rfl
 have ow118 := ow hw 118 rfl
 have ow119 := ow hw 119 rfl
 have ow120 := ow hw 120 rfl
 have ow121 := ow hw 121 rfl
 have ow122 := ow hw 122 rfl
 have ow123 := ow hw 123 rfl
 have ow133 := ow hw 133 rfl
 have ow134 := ow hw 134 rfl
 have ow135 := ow hw 135 rfl
 have ow136 := ow hw 136 rfl
 have ow137 := ow hw 137 rfl
 have ow138 := ow hw 138 rfl
 have ow139 := ow hw 139 rfl
 have ow140 := ow hw 140 rfl
 have ow141 := ow hw 141 rfl
 have ow144 := ow hw 144 rfl
 have ow146 := ow hw 146 rfl
 have ow157 := ow hw 157 rfl
 have ow158 := ow hw 158 rfl
 have ow159 := ow hw 159 rfl
 have ow160 := ow hw 160 rfl
 have ow161 := ow hw 161 rfl
 have ow162 := ow hw 162 rfl
 have ow163 := ow hw 163 rfl
 have ow164 := ow hw 164 rfl
 have ow165 := ow hw 165 rfl
 have ow166 := ow hw 166 rfl
 have ow167 := ow hw 167 rfl
 have ow168 := ow hw 168 rfl
 have ow198 := ow hw 198 rfl
 have ow250 := ow hw 250 rfl
 have ow251 := ow hw 251 rfl
 have ow252 := ow hw 252 rfl
 have ow253 := ow hw 253 rfl
 have ow254 := ow hw 254 rfl
 have ow263 := ow hw 263 rfl
 have ow283 := ow hw 283 rfl
 have ow284 := ow hw 284 rfl
 have ow285 := ow hw 285 rfl
 have ow286 := ow hw 286 rfl
 have ow287 := ow hw 287 rfl
 have ow288 := ow hw 288 rfl
 have ow289 := ow hw 289 rfl
 have ow290 := ow hw 290 rfl
 have ow291 := ow hw 291 rfl
 have ow292 := ow hw 292 rfl
 have ow293 := ow hw 293 rfl
 have ow294 := ow hw 294 rfl
 have ow295 := ow hw 295 rfl
 have ow296 := ow hw 296 rfl
 have ow297 := ow hw 297 rfl
 have ow298 := ow hw 298 rfl
 have ow299 := ow hw 299 rfl
 have ow301 := ow hw 301 rfl
 have ow302 := ow hw 302 rfl
 have ow308 := ow hw 308 rfl
 have ow309 := ow hw 309 rfl
 have ow310 := ow hw 310 rfl
 have ow311 := ow hw 311 rfl
 have ow312 := ow hw 312 rfl
 have ow313 := ow hw 313 rfl
 have ow314 := ow hw 314 rfl
 have ow315 := ow hw 315 rfl
 have ow316 := ow hw 316 rfl
 have ow318 := ow hw 318 rfl
 have ow319 := ow hw 319 rfl
 have ow320 := ow hw 320 rfl
 have ow321 := ow hw 321 rfl
 have ow322 := ow hw 322 rfl
 have ow326 := ow hw 326 rfl
 have ow327 := ow hw 327 rfl
 have ow328 := ow hw 328 rfl
 have ow329 := ow hw 329 rfl
 have ow330 := ow hw 330 rfl
 have ow331 := ow hw 331 rfl
 have ow332 := ow hw 332 rfl
 have ow333 := ow hw 333 rfl
 have ow361 := ow hw 361 rfl
 have ow368 := ow hw 368 rfl
 have ow392 := ow hw 392 rfl
 have ow398 := ow hw 398 rfl
 have ow399 := ow hw 399 rfl
 have ow400 := ow hw 400 rfl
 have ow401 := ow hw 401 rfl
 have ow402 := ow hw 402 rfl
 have ow403 := ow hw 403 rfl
 have ow404 := ow hw 404 rfl
 have ow405 := ow hw 405 rfl
 have ow406 := ow hw 406 rfl
 have ow407 := ow hw 407 rfl
 have ow408 := ow hw 408 rfl
 have ow409 := ow hw 409 rfl
 have ow410 := ow hw 410 rfl
 have ow411 := ow hw 411 rfl
 have ow412 := ow hw 412 rfl
 have ow413 := ow hw 413 rfl
 have ow414 := ow hw 414 rfl
 have ow415 := ow hw 415 rfl
 have ow416 := ow hw 416 rfl
 have ow417 := ow hw 417 rfl
 have ow430 := ow hw 430 rfl
 have ow432 := ow hw 432 rfl
 have ow433 := ow hw 433 rfl
 have ow434 := ow hw 434 rfl
 have ow435 := ow hw 435 rfl
 have ow436 := ow hw 436 rfl
 have ow437 := ow hw 437 rfl
 have ow438 := ow hw 438 rfl
 have ow439 := ow hw 439 rfl
 have ow440 := ow hw 440 rfl
 have ow441 := ow hw 441 rfl
 have ow476 := ow hw 476 rfl
 have ow477 := ow hw 477 rfl
 have ow478 := ow hw 478 rfl
 have ow479 := ow hw 479 rfl
 have ow480 := ow hw 480 rfl
 have ow481 := ow hw 481 rfl
 have ow482 := ow hw 482 rfl
 have ow483 := ow hw 483 rfl
 have ow484 := ow hw 484 rfl
 have ow485 := ow hw 485 rfl
 have ow505 := ow hw 505 rfl
 have ow506 := ow hw 506 rfl
 have ow507 := ow hw 507 rfl
 have ow508 := ow hw 508 rfl
 have ow509 := ow hw 509 rfl
 have ow510 := ow hw 510 rfl
 have ow511 := ow hw 511 rfl
 have ow512 := ow hw 512 rfl
 have ow513 := ow hw 513 rfl
 have ow514 := ow hw 514 rfl
 have ow515 := ow hw 515 rfl
 have ow516 := ow hw 516 rfl
 have ow517 := ow hw 517 rfl
 have ow518 := ow hw 518 rfl
 have ow521 := ow hw 521 rfl
 have ow534 := ow hw 534 rfl
 have ow535 := ow hw 535 rfl
 have ow536 := ow hw 536 rfl
 have ow537 := ow hw 537 rfl
 have ow538 := ow hw 538 rfl
 have ow539 := ow hw 539 rfl
 have ow543 := ow hw 543 rfl
 have ow544 := ow hw 544 rfl
 have ow545 := ow hw 545 rfl
 have ow546 := ow hw 546 rfl
 have ow582 := ow hw 582 rfl
 have ow583 := ow hw 583 rfl
 have X0 : Stand p l e ({ frames := 9, cells := 23, slots := 129, locals := 130 } : Room) (s.setVm s.vm) m #[(.ref tt), (.ref ns), (.ref ww), (.ref pp), (.ref sl)] below meth c s₁ [] 0 0 := Stand.of_body Bd
 have e0 : s₁.heap = h0 := by rw [← hh, Bd.state]; rfl
 have N0 := Fr.nil n0
 have pre0 : ∀ t, Steps p.tables e below (s₁.setTop (mkF m 0 #[(oR tt), (oR ns), (oR ww), (oR pp), (oR sl), ou, ou, ou, ou, ou, ou] [])) t → Steps p.tables e below (s₁.setTop (entryFrame m #[(.ref tt), (.ref ns), (.ref ww), (.ref pp), (.ref sl)] 11)) t := fun t k => castTop (jhU m tt ns ww pp sl) k
 refine ja pre0 ?_
 refine jcV ?_
 intro Pf hPf
 have hZ : Z.Warmed39 (s.setVm s.vm).vm := hZ
 have hown : (s.setVm s.vm).vm.findClass S7' = some m.cls := hown
 have Sn0 : s.Since s.vm 0 := (State.WarmedH.refl s).since 0
 have hk0 : 0 ≤ h0.size := Nat.zero_le _
 refine ja (A := oW p e below s₁ (jd m 1 (oR tt) (oR ns) (oR ww) (oR pp) (oR sl) ou ou ou ou ou ou [(.ref tt)])) (fun t k => by
  refine XS.aloadN X0.here hx rfl (dd 0 rfl) rfl rfl ?_
  exact k) ?_
 obtain ⟨T1, X1, e1, st1⟩ := initO X0 hx hZ hown ow117 ow20 ow21 e0 (g := (jd m 1 (oR tt) (oR ns) (oR ww) (oR pp) (oR sl) ou ou ou ou ou ou [(.ref tt)])) rfl (by rw [hml]; rfl) rfl (dd 1 rfl) (by decide) (W := 0) (by show 2 * 0 + _ ≤ _; exact Nat.le_of_eq rfl) (by decide)
 refine ja st1 ?_
 refine ja (A := oW p e below T1 (jd m 5 (oR tt) (oR ns) (oR ww) (oR pp) (oR sl) ou ou ou ou ou ou [(.ref tt)])) (fun t k => by
  refine XS.aloadN X1.here hx rfl (dd 2 rfl) rfl rfl ?_
  exact k) ?_
 obtain ⟨T2, h2, X2, e2, E2, A2, D2, -, st2⟩ := newO X1 hx hZ hown ow118 ow119 ow120 e1 (g := (jd m 5 (oR tt) (oR ns) (oR ww) (oR pp) (oR sl) ou ou ou ou ou ou [(.ref tt)])) rfl (dd 3 rfl) (by decide) (by decide)
 obtain ⟨b2, g2⟩ : ∃ z, z = h0.size := ⟨_, rfl⟩
 rw [← g2] at A2 D2 st2
 refine ja st2 ?_
 have g_b2 : n0 ≤ b2 := Nat.le_trans Z0 (Nat.le_of_eq g2.symm)
 have hk2 : 0 ≤ h2.size := Nat.le_trans hk0 E2.1
 have Z2 : n0 ≤ h2.size := Nat.le_trans Z0 E2.1
 have F2_loadFactor : Fld Z h2 b2 S1' S52' "F" (.float (0 : UInt32)) := D2 (Or.inr ow133) (ty := .float) (by decide)
 have F2_size : Fld Z h2 b2 S1' S8' "I" (.int 0) := D2 (Or.inl ow318) (ty := .int) (by decide)
 have F2_table : Fld Z h2 b2 S1' S22' S16' .null := D2 (Or.inl ow361) (ty := (.array (.object S5'))) (by decide)
 have F2_threshold : Fld Z h2 b2 S1' S23' "I" (.int 0) := D2 (Or.inl ow368) (ty := .int) (by decide)
 have F2_modCount : Fld Z h2 b2 S1' S12' "I" (.int 0) := D2 (Or.inl ow392) (ty := .int) (by decide)
 refine ja (A := oW p e below T2 (jd m 9 (oR tt) (oR ns) (oR ww) (oR pp) (oR sl) ou ou ou ou ou ou [(.ref b2), (.ref b2), (.ref tt)])) (fun t k => by
  refine XS.dup X2.here hx rfl (dd 4 rfl) rfl rfl ?_
  exact k) ?_
 obtain ⟨_, T3, L3, X3, hQ3, st3⟩ := jaF X2 hx hZ hown ow121 ow122 ow123 ow120 (jgD l Z a0 hw [] b2 h2 n0 Z2 A2 g_b2 F2_table F2_size F2_threshold F2_modCount F2_loadFactor) e2 rfl (by decide) (g := (jd m 9 (oR tt) (oR ns) (oR ww) (oR pp) (oR sl) ou ou ou ou ou ou [(.ref b2), (.ref b2), (.ref tt)])) rfl (by rw [hml]; rfl) (rest := [(.ref b2), (.ref tt)]) rfl (lenOf jS rfl) rfl (W := 2) (Nat.le_of_eq rfl) (dd 5 rfl) (by decide)
 obtain ⟨rfl, N3q, K3q, p3_0, p3_1, p3_2, p3_3⟩ := hQ3
 have N3 := Fr.app N0 N3q
 have hk3 : 0 ≤ T3.heap.size := Nat.le_trans hk2 K3q.1
 have Z3 : n0 ≤ T3.heap.size := Nat.le_trans Z2 K3q.1
 refine ja st3 ?_
 obtain ⟨v4k, F4k⟩ := fld_laid ((Ett.ext E2).keep K3q) ((Ktt.ext E2).keep K3q) ow112 (Or.inr ow135)
 obtain ⟨T5, h5, X5, e5, W5, st5⟩ := putF X3 hx hZ hown (host := "") (Or.inl ow134) Via.refl rfl F4k ((Ett.ext E2).keep K3q) (Or.inr ⟨ow135, rfl, hnm⟩) ow112 (ty := (.object "java/util/Map")) (by decide) rfl rfl (g := (jd m 12 (oR tt) (oR ns) (oR ww) (oR pp) (oR sl) ou ou ou ou ou ou [(.ref b2), (.ref tt)])) rfl rfl (dd 6 rfl)
 refine ja st5 ?_
 have nt_b2_tt : b2 ≠ tt := Ne.symm (Nat.ne_of_lt (Nat.lt_of_lt_of_le Ett.lt (Nat.le_of_eq g2.symm)))
 have f5_10 : Fld Z h5 tt S7' S42' S43' (.ref b2) := F4k.same W5
 have N5 := Fr.snoc X5 N3 g_tt
 have hk5 : 0 ≤ h5.size := Nat.le_trans hk3 (Keep.of_wr W5).1
 have Z5 : n0 ≤ h5.size := Nat.le_trans Z3 (Keep.of_wr W5).1
 refine ja (A := oW p e below T5 (jd m 16 (oR tt) (oR ns) (oR ww) (oR pp) (oR sl) ou ou ou ou ou ou [(.ref tt)])) (fun t k => by
  refine XS.aloadN X5.here hx rfl (dd 7 rfl) rfl rfl ?_
  exact k) ?_
 obtain ⟨T6, h6, X6, e6, E6, A6, D6, -, st6⟩ := newO X5 hx hZ hown ow136 ow137 ow138 e5 (g := (jd m 16 (oR tt) (oR ns) (oR ww) (oR pp) (oR sl) ou ou ou ou ou ou [(.ref tt)])) rfl (dd 8 rfl) (by decide) (by decide)
 obtain ⟨b6, g6⟩ : ∃ z, z = h5.size := ⟨_, rfl⟩
 rw [← g6] at A6 D6 st6
 refine ja st6 ?_
 have g_b6 : n0 ≤ b6 := Nat.le_trans Z5 (Nat.le_of_eq g6.symm)
 have hk6 : 0 ≤ h6.size := Nat.le_trans hk5 E6.1
 have Z6 : n0 ≤ h6.size := Nat.le_trans Z5 E6.1
 have F6_wordsInUse : Fld Z h6 b6 S10' S32' "I" (.int 0) := D6 (Or.inl ow144) (ty := .int) (by decide)
 have F6_sizeIsSticky : Fld Z h6 b6 S10' S33' "Z" (.int 0) := D6 (Or.inl ow146) (ty := .boolean) (by decide)
 have F6_words : Fld Z h6 b6 S10' "words" "[J" .null := D6 (Or.inl ow157) (ty := (.array .long)) (by decide)
 refine ja (A := oW p e below T6 (jd m 20 (oR tt) (oR ns) (oR ww) (oR pp) (oR sl) ou ou ou ou ou ou [(.ref b6), (.ref b6), (.ref tt)])) (fun t k => by
  refine XS.dup X6.here hx rfl (dd 9 rfl) rfl rfl ?_
  exact k) ?_
 obtain ⟨_, T7, L7, X7, hQ7, st7⟩ := jaF X6 hx hZ hown ow139 ow140 ow141 ow138 (jgS l Z a0 hw [] b6 h6 n0 Z6 A6 g_b6 F6_words F6_wordsInUse F6_sizeIsSticky) e6 rfl (by decide) (g := (jd m 20 (oR tt) (oR ns) (oR ww) (oR pp) (oR sl) ou ou ou ou ou ou [(.ref b6), (.ref b6), (.ref tt)])) rfl (by rw [hml]; rfl) (rest := [(.ref b6), (.ref tt)]) rfl (lenOf jS rfl) rfl (W := 2) (Nat.le_of_eq rfl) (dd 10 rfl) (by decide)
 obtain ⟨wa, kw, rfl, N7q, K7q, s_wa, p7_0, p7_1, p7_2, p7_3, p7_4⟩ := hQ7
 have N7 := Fr.app N5 N7q
 have g_wa : n0 ≤ wa := Nat.le_trans Z6 s_wa
 have f7_3 := ((((HW.ext E2).keep K3q (allS ⟨_, A2, by decide⟩ all0)).keep (Keep.of_wr W5) (allS ⟨_, ((Ett.ext E2).keep K3q), by decide⟩ all0)).ext E6).keep K7q (allS ⟨_, A6, by decide⟩ all0)
 have f7_4 := ((((HG.ext E2).keep K3q (allS ⟨_, A2, by decide⟩ all0)).keep (Keep.of_wr W5) (allS ⟨_, ((Ett.ext E2).keep K3q), by decide⟩ all0)).ext E6).keep K7q (allS ⟨_, A6, by decide⟩ all0)
 have nt_b2_b6 : b2 ≠ b6 := Nat.ne_of_lt (Nat.lt_of_lt_of_le ((A2.keep K3q).wr W5).lt (Nat.le_of_eq g6.symm))
 have nt_tt_b6 : tt ≠ b6 := Nat.ne_of_lt (Nat.lt_of_lt_of_le (((Ett.ext E2).keep K3q).wr W5).lt (Nat.le_of_eq g6.symm))
 have hk7 : 0 ≤ T7.heap.size := Nat.le_trans hk6 K7q.1
 have Z7 : n0 ≤ T7.heap.size := Nat.le_trans Z6 K7q.1
 refine ja st7 ?_
 have g9f := ((((Ett.ext E2).keep K3q).wr W5).ext E6).keep K7q
 have g10f := ((((Ktt.ext E2).keep K3q).keep (Keep.of_wr W5)).ext E6).keep K7q
 obtain ⟨v8k, F8k⟩ := fld_laid g9f g10f ow112 (Or.inr ow159)
 obtain ⟨T11, h11, X11, e11, W11, st11⟩ := putF X7 hx hZ hown (host := "") (Or.inl ow158) Via.refl rfl F8k g9f (Or.inr ⟨ow159, rfl, hnm⟩) ow112 (ty := (.object S10')) (by decide) rfl rfl (g := (jd m 23 (oR tt) (oR ns) (oR ww) (oR pp) (oR sl) ou ou ou ou ou ou [(.ref b6), (.ref tt)])) rfl rfl (dd 11 rfl)
 refine ja st11 ?_
 have nt_wa_tt : wa ≠ tt := Ne.symm (Nat.ne_of_lt (Nat.lt_of_lt_of_le ((((Ett.ext E2).keep K3q).wr W5).ext E6).lt s_wa))
 have f11_17 : Fld Z h11 tt S7' S48' S49' (.ref b6) := F8k.same W11
 have N11 := Fr.snoc X11 N7 g_tt
 have hk11 : 0 ≤ h11.size := Nat.le_trans hk7 (Keep.of_wr W11).1
 have Z11 : n0 ≤ h11.size := Nat.le_trans Z7 (Keep.of_wr W11).1
 refine ja (A := oW p e below T11 (jd m 28 (oR tt) (oR ns) (oR ww) (oR pp) (oR sl) ou ou ou ou ou ou [(.ref ns), (.ref tt)])) (fun t k => by
  refine XS.aloadN X11.here hx rfl (dd 12 rfl) rfl rfl ?_
  refine XS.aloadN X11.here hx rfl (dd 13 rfl) rfl rfl ?_
  exact k) ?_
 obtain ⟨a12, T12, h12, k12, X12, e12, E12, Sn12, hk12, hZ12, hown12, st12⟩ := ldcS X11 hx hZ hown ow160 (jjm hw) e11 Sn0 hk11 (g := (jd m 28 (oR tt) (oR ns) (oR ww) (oR pp) (oR sl) ou ou ou ou ou ou [(.ref ns), (.ref tt)])) rfl (dd 14 rfl) (n := 16) (by decide) (by decide) (by decide) (by decide)
 refine ja st12 ?_
 have Z12 : n0 ≤ h12.size := Nat.le_trans Z11 E12.1
 obtain ⟨sv, h_sv⟩ : ∃ z, z = s.setVm T12.vm := ⟨_, rfl⟩
 rw [← h_sv] at X12 hZ12 hown12
 obtain ⟨_, T13, L13, X13, hQ13, st13⟩ := jH X12 hx hZ12 hown12 ow161 ow102 ow104 ow103 (jcX l Z a0 hw [] ns a12 h12 n0 Z12 ) e12 (by decide) (g := (jd m 30 (oR tt) (oR ns) (oR ww) (oR pp) (oR sl) ou ou ou ou ou ou [(.ref a12), (.ref ns), (.ref tt)])) rfl (by rw [hml]; rfl) (rest := [(.ref tt)]) rfl (lenOf jo rfl) rfl (W := 1) (Nat.le_of_eq rfl) (dd 15 rfl) (by decide)
 obtain ⟨rfl, N13q, eh13⟩ := hQ13
 have N13 := Fr.app N11 N13q
 refine ja st13 ?_
 have g14f := ((((((Ens.ext E2).keep K3q).wr W5).ext E6).keep K7q).wr W11).ext E12
 obtain ⟨T15, X15, e15, st15⟩ := castY X13 hx hZ12 hown12 ow162 eh13 (Ins.self g14f) (g := (jd m 33 (oR tt) (oR ns) (oR ww) (oR pp) (oR sl) ou ou ou ou ou ou [(.ref ns), (.ref tt)])) rfl rfl (dd 16 rfl)
 refine ja st15 ?_
 obtain ⟨v16k, F16k⟩ := fld_laid ((g9f.wr W11).ext E12) ((g10f.keep (Keep.of_wr W11)).ext E12) ow112 (Or.inr ow164)
 obtain ⟨T17, h17, X17, e17, W17, st17⟩ := putF X15 hx hZ12 hown12 (host := "") (Or.inl ow163) Via.refl e15 F16k ((g9f.wr W11).ext E12) (Or.inr ⟨ow164, rfl, hnm⟩) ow112 (ty := (.object S2')) (by decide) rfl rfl (g := (jd m 36 (oR tt) (oR ns) (oR ww) (oR pp) (oR sl) ou ou ou ou ou ou [(.ref ns), (.ref tt)])) rfl rfl (dd 17 rfl)
 refine ja st17 ?_
 have f17_19 : Fld Z h17 tt S7' "name" S25' (.ref ns) := F16k.same W17
 have N17 := Fr.snoc X17 N13 g_tt
 have Z17 : n0 ≤ h17.size := Nat.le_trans Z12 (Keep.of_wr W17).1
 have g18f := (f11_17.ext E12).other W17 (Or.inr (jkD hw))
 have g19f := ((((f5_10.ext E6).keep K7q (ninS nt_tt_b6 nin0)).other W11 (Or.inr (jkB hw))).ext E12).other W17 (Or.inr (jkC hw))
 have g20f := ((p7_1.other W11 (nt_wa_tt)).ext E12).other W17 (nt_wa_tt)
 have g21f := ((p7_2.other W11 (Or.inl (Ne.symm nt_tt_b6))).ext E12).other W17 (Or.inl (Ne.symm nt_tt_b6))
 have g22f := ((p7_3.other W11 (Or.inl (Ne.symm nt_tt_b6))).ext E12).other W17 (Or.inl (Ne.symm nt_tt_b6))
 have g23f := ((p7_4.other W11 (Or.inl (Ne.symm nt_tt_b6))).ext E12).other W17 (Or.inl (Ne.symm nt_tt_b6))
 have hbs : jck Z n0 h17 b6 wa := ⟨g_b6, g_wa, ((((A6.keep K7q).wr W11).ext E12).wr W17), (((p7_0.wr W11).ext E12).wr W17), _, _, _, _, g20f, g21f, g22f, g23f⟩
 have g24f := ((((((A2.keep K3q).wr W5).ext E6).keep K7q).wr W11).ext E12).wr W17
 have g25f := (((((p3_0.other W5 (Or.inl nt_b2_tt)).ext E6).keep K7q (ninS nt_b2_b6 nin0)).other W11 (Or.inl nt_b2_tt)).ext E12).other W17 (Or.inl nt_b2_tt)
 have g26f := (((((p3_1.other W5 (Or.inl nt_b2_tt)).ext E6).keep K7q (ninS nt_b2_b6 nin0)).other W11 (Or.inl nt_b2_tt)).ext E12).other W17 (Or.inl nt_b2_tt)
 have g27f := (((((p3_2.other W5 (Or.inl nt_b2_tt)).ext E6).keep K7q (ninS nt_b2_b6 nin0)).other W11 (Or.inl nt_b2_tt)).ext E12).other W17 (Or.inl nt_b2_tt)
 have g28f := (((((p3_3.other W5 (Or.inl nt_b2_tt)).ext E6).keep K7q (ninS nt_b2_b6 nin0)).other W11 (Or.inl nt_b2_tt)).ext E12).other W17 (Or.inl nt_b2_tt)
 have hmi : jbh Z n0 h17 b2 0 := ⟨g24f, g_b2, Or.inl ⟨rfl, g25f, g26f, g27f, g28f⟩⟩
 have hk4 := (jce hk).2.2.2.2.1
 refine ja (A := oW p e below T17 (jd m 41 (oR tt) (oR ns) (oR ww) (oR pp) (oR sl) ou ou ou ou ou ou [(.ref ww), (.ref tt)])) (fun t k => by
  refine XS.aloadN X17.here hx rfl (dd 18 rfl) rfl rfl ?_
  refine XS.aloadN X17.here hx rfl (dd 19 rfl) rfl rfl ?_
  exact k) ?_
 have g30f := ((f7_4.keep (Keep.of_wr W11) (allS ⟨_, g9f, by decide⟩ all0)).ext E12).keep (Keep.of_wr W17) (allS ⟨_, ((g9f.wr W11).ext E12), by decide⟩ all0)
 have g31f := ((f7_3.keep (Keep.of_wr W11) (allS ⟨_, g9f, by decide⟩ all0)).ext E12).keep (Keep.of_wr W17) (allS ⟨_, ((g9f.wr W11).ext E12), by decide⟩ all0)
 obtain ⟨_, T29, L29, X29, hQ29, st29⟩ := jH X17 hx hZ12 hown12 ow165 ow166 ow168 ow167 (jhR l Z a0 hw [] ww em mo kk h17 n0 Z17 g30f.2.2.2.2.2.2.2.2.2.2.1 g30f.2.2.2.2.2.2.2.2.2.2.2.1 hmo g31f hk) e17 (by decide) (g := (jd m 41 (oR tt) (oR ns) (oR ww) (oR pp) (oR sl) ou ou ou ou ou ou [(.ref ww), (.ref tt)])) rfl (by rw [hml]; rfl) (rest := [(.ref tt)]) rfl (lenOf jq rfl) rfl (W := 1) (Nat.le_of_eq rfl) (dd 20 rfl) (by decide)
 obtain ⟨wl, xs, rfl, N29q, K29q, s_wl, p29_0⟩ := hQ29
 have N29 := Fr.app N17 N29q
 have g_wl : n0 ≤ wl := Nat.le_trans Z17 s_wl
 have Z29 : n0 ≤ T29.heap.size := Nat.le_trans Z17 K29q.1
 refine ja st29 ?_
 have g33f := (((g10f.keep (Keep.of_wr W11)).ext E12).keep (Keep.of_wr W17)).keep K29q
 obtain ⟨v32k, F32k⟩ := fld_laid ((((g9f.wr W11).ext E12).wr W17).keep K29q) g33f ow112 (Or.inr ow251)
 obtain ⟨T34, h34, X34, e34, W34, st34⟩ := putF X29 hx hZ12 hown12 (host := "") (Or.inl ow250) Via.refl rfl F32k ((((g9f.wr W11).ext E12).wr W17).keep K29q) (Or.inr ⟨ow251, rfl, hnm⟩) ow112 (ty := (.object S24')) (by decide) rfl rfl (g := (jd m 44 (oR tt) (oR ns) (oR ww) (oR pp) (oR sl) ou ou ou ou ou ou [(.ref wl), (.ref tt)])) rfl rfl (dd 21 rfl)
 refine ja st34 ?_
 have f34_12 : Fld Z h34 tt S7' "wires" S14' (.ref wl) := F32k.same W34
 have N34 := Fr.snoc X34 N29 g_tt
 have Z34 : n0 ≤ h34.size := Nat.le_trans Z29 (Keep.of_wr W34).1
 refine ja (A := oW p e below T34 (jd m 48 (oR tt) (oR ns) (oR ww) (oR pp) (oR sl) ou ou ou ou ou ou [(.ref tt)])) (fun t k => by
  refine XS.aloadN X34.here hx rfl (dd 22 rfl) rfl rfl ?_
  exact k) ?_
 obtain ⟨T35, X35, e35, st35⟩ := getF X34 hx hZ12 hown12 (host := "") (Or.inl ow250) Via.refl e34 f34_12 (g := (jd m 48 (oR tt) (oR ns) (oR ww) (oR pp) (oR sl) ou ou ou ou ou ou [(.ref tt)])) rfl rfl (dd 23 rfl)
 refine ja st35 ?_
 have g36f := p29_0.keep (Keep.of_wr W34) (allS ⟨_, ((((g9f.wr W11).ext E12).wr W17).keep K29q), by decide⟩ all0)
 obtain ⟨it, T37, L37, X37, hQ37, st37⟩ := jlo (n0 := n0) hw X35 hx hZ12 hown12 g36f.wl Z34 e35 (g := (jd m 51 (oR tt) (oR ns) (oR ww) (oR pp) (oR sl) ou ou ou ou ou ou [(.ref wl)])) rfl (by rw [hml]; rfl) rfl (W := 0) (Nat.le_of_eq rfl) (dd 24 rfl) (by decide)
 obtain ⟨N37q, K37q, s_it, p37_0, p37_1, p37_2, p37_3, p37_4⟩ := hQ37
 have N37 := Fr.app N34 N37q
 have g_it : n0 ≤ it := Nat.le_trans Z34 s_it
 refine ja st37 ?_
 have f37_5 := ((((((A6.keep K7q).wr W11).ext E12).wr W17).keep K29q).wr W34).keep K37q
 have Z37 : n0 ≤ T37.heap.size := Nat.le_trans Z34 K37q.1
 refine ja (A := oW p e below T37 (jd m 58 (oR tt) (oR ns) (oR ww) (oR pp) (oR sl) (oR it) ou ou ou ou ou [])) (fun t k => by
  refine XS.astore X37.here hx rfl (dd 25 rfl) rfl rfl (l' := #[(oR tt), (oR ns), (oR ww), (oR pp), (oR sl), (oR it), ou, ou, ou, ou, ou]) rfl ?_
  exact k) ?_
 have g38f := (((((g9f.wr W11).ext E12).wr W17).keep K29q).wr W34).keep K37q
 have g39f := ((g30f.keep K29q all0).keep (Keep.of_wr W34) (allS ⟨_, ((((g9f.wr W11).ext E12).wr W17).keep K29q), by decide⟩ all0)).keep K37q all0
 have g40f := ((g19f.keep K29q nin0).other W34 (Or.inr (jga hw))).keep K37q nin0
 have g41f := (((((p7_0.wr W11).ext E12).wr W17).keep K29q).wr W34).keep K37q
 have g42f := ((g18f.keep K29q nin0).other W34 (Or.inr (jgb hw))).keep K37q nin0
 have g43f := ((((show jbN k12 h12 from hk12).keep (Keep.of_wr W17)).keep K29q).keep (Keep.of_wr W34)).keep K37q
 have g44f := ((hbs.keep K29q all0).keep (Keep.of_wr W34) (allS ⟨_, ((((g9f.wr W11).ext E12).wr W17).keep K29q), by decide⟩ all0)).keep K37q all0
 have g45f := ((hmi.keep K29q all0).keep (Keep.of_wr W34) (allS ⟨_, ((((g9f.wr W11).ext E12).wr W17).keep K29q), by decide⟩ all0)).keep K37q all0
 have g46f := (((((g9f.wr W11).ext E12).wr W17).keep K29q).wr W34).keep K37q
 have g47f := ((g30f.keep K29q all0).keep (Keep.of_wr W34) (allS ⟨_, ((((g9f.wr W11).ext E12).wr W17).keep K29q), by decide⟩ all0)).keep K37q all0
 have g48f := ((g19f.keep K29q nin0).other W34 (Or.inr (jga hw))).keep K37q nin0
 have g49f := (((((p7_0.wr W11).ext E12).wr W17).keep K29q).wr W34).keep K37q
 have g50f := ((g18f.keep K29q nin0).other W34 (Or.inr (jgb hw))).keep K37q nin0
 have g51f := ((((show jbN k12 h12 from hk12).keep (Keep.of_wr W17)).keep K29q).keep (Keep.of_wr W34)).keep K37q
 have g52f := ((hbs.keep K29q all0).keep (Keep.of_wr W34) (allS ⟨_, ((((g9f.wr W11).ext E12).wr W17).keep K29q), by decide⟩ all0)).keep K37q all0
 have lpE : ∀ (nE iE : Nat) (s6E : Slot) (TE : State) (locsE : List Loc) (hE : Heap) (rE : iE + nE = je kk) (XE : Stand p l e ({ frames := 9, cells := 23, slots := 129, locals := 130 } : Room) sv m #[(.ref tt), (.ref ns), (.ref ww), (.ref pp), (.ref sl)] below meth c TE locsE (9 + 2 * iE) (44 + 20 * iE)) (eE : TE.heap = hE) (NE : Fr n0 locsE) (ZE : n0 ≤ hE.size) (sdE : s6E = .unset ∨ ∃ w, s6E = .val w ∧ w.category = 1) (fE_0 : Exa Z hE tt S7') (fE_1 : jbO hE tt) (fE_2 : jch Z n0 hE pp sl pea ca de em cz mc nn ss ds) (fE_3 : Exa Z hE b2 S1') (fE_4 : Fld Z hE tt S7' S42' S43' (.ref b2)) (fE_5 : Exa Z hE b6 S10') (fE_6 : Exa Z hE wa "[J") (fE_7 : Fld Z hE tt S7' S48' S49' (.ref b6)) (fE_8 : jbN k12 hE) (fE_9 : jck Z n0 hE b6 wa) (fE_10 : jbh Z n0 hE b2 iE) (fE_11 : jbF Z n0 hE wl kk xs) (fE_12 : Fld Z hE tt S7' "wires" S14' (.ref wl)) (fE_13 : Exa Z hE it S6') (fE_14 : Fld Z hE it S6' "list" S14' (.ref wl)) (fE_15 : Fld Z hE it S6' S8' "I" (.int kk)) (fE_16 : Fld Z hE it S6' S20' "I" (.int (Int32.ofNat iE))) (fE_17 : Fld Z hE it S6' S28' "Z" (.int 0)), ∃ t o, oW p e below TE (jd m 58 (oR tt) (oR ns) (oR ww) (oR pp) (oR sl) (oR it) s6E ou ou ou ou []) t ∧ Pf t o := by
  intro nE
  induction nE with
  | zero =>
   intro iE s6E TE locsE hE rE XE eE NE ZE sdE fE_0 fE_1 fE_2 fE_3 fE_4 fE_5 fE_6 fE_7 fE_8 fE_9 fE_10 fE_11 fE_12 fE_13 fE_14 fE_15 fE_16 fE_17
   have hiE : iE = je kk := by omega
   have XE := XE.mono (by omega : _ ≤ 15) (by omega : _ ≤ 104)
   refine ja (A := oW p e below TE (jd m 60 (oR tt) (oR ns) (oR ww) (oR pp) (oR sl) (oR it) s6E ou ou ou ou [(.ref it)])) (fun t k => by
    refine XS.aload XE.here hx rfl (dd 26 rfl) rfl rfl ?_
    exact k) ?_
   obtain ⟨_, T53, L53, X53, hQ53, st53⟩ := jaI XE hx hZ12 hown12 ow283 ow284 ow286 ow287 (mvT hZ12 ow285) ow288 ow289 ow290 ow291 ow263 (jfy l Z a0 hw [] it kk (Int32.ofNat iE) hE n0 ZE fE_15 fE_16 (by rw [hiE]; exact (jce hk).2.2.2.1)) eE fE_13 (by decide) (g := (jd m 60 (oR tt) (oR ns) (oR ww) (oR pp) (oR sl) (oR it) s6E ou ou ou ou [(.ref it)])) rfl (by rw [hml]; rfl) (rest := []) rfl (lenOf jaJ rfl) rfl (W := 0) (Nat.le_of_eq rfl) (dd 27 rfl) (by decide)
   obtain ⟨rfl, N53q, eh53⟩ := hQ53
   have N53 := Fr.app NE N53q
   refine ja st53 ?_
   refine ja (A := oW p e below T53 (jd m 125 (oR tt) (oR ns) (oR ww) (oR pp) (oR sl) (oR it) s6E ou ou ou ou [])) (fun t k => by
    refine XS.ifYes X53.here hx rfl (pc0 := 65) (pc' := 125) rfl (dd 28 rfl) rfl ((if0 _ _).trans (teq (by decide : (0 : Int32) = (0 : Int32))).1) (by decide) (by decide) ?_
    exact k) ?_
   have mp54 : jbl Z n0 hE b2 kk := by have q := fE_10; rw [hiE] at q; exact q.map hk
   have wq54 := (fE_11).wl
   refine ja (A := oW p e below T53 (jd m 127 (oR tt) (oR ns) (oR ww) (oR pp) (oR sl) (oR it) s6E ou ou ou ou [(.ref pp), (.ref tt)])) (fun t k => by
    refine XS.aloadN X53.here hx rfl (dd 49 rfl) rfl rfl ?_
    refine XS.aloadN X53.here hx rfl (dd 50 rfl) rfl rfl ?_
    exact k) ?_
   obtain ⟨_, T55, L55, X55, hQ55, st55⟩ := jaI X53 hx hZ12 hown12 ow398 ow399 ow401 ow402 (mvT hZ12 ow400) ow403 ow404 ow405 ow406 ow3 (jcu l Z a0 hw [] pp (Int32.ofNat nn) hE n0 ZE fE_2.2.1) eh53 fE_2.1 (by decide) (g := (jd m 127 (oR tt) (oR ns) (oR ww) (oR pp) (oR sl) (oR it) s6E ou ou ou ou [(.ref pp), (.ref tt)])) rfl (by rw [hml]; rfl) (rest := [(.ref tt)]) rfl (lenOf jag rfl) rfl (W := 1) (Nat.le_of_eq rfl) (dd 51 rfl) (by decide)
   obtain ⟨rfl, N55q, eh55⟩ := hQ55
   have N55 := Fr.app N53 N55q
   refine ja st55 ?_
   obtain ⟨T56, h56, k56, X56, e56, E56, A56, Q56, st56⟩ := newPE X55 hx hZ12 (aty := .int) ow407 eh55 (g := (jd m 132 (oR tt) (oR ns) (oR ww) (oR pp) (oR sl) (oR it) s6E ou ou ou ou [(.int (Int32.ofNat nn)), (.ref tt)])) rfl (dd 52 rfl) rfl (jcD hn3).1 (cap := 3) (jcD hn3).2.2 (by decide) (by decide) (by decide) (ad := "[I") (by decide)
   obtain ⟨b56, g56⟩ : ∃ z, z = hE.size := ⟨_, rfl⟩
   rw [← g56] at A56 Q56 st56
   refine ja st56 ?_
   have g_b56 : n0 ≤ b56 := Nat.le_trans ZE (Nat.le_of_eq g56.symm)
   have Z56 : n0 ≤ h56.size := Nat.le_trans ZE E56.1
   have V56 : Arv Z h56 b56 k56 .int (Int32.ofNat nn) (oM (jbf ss nn 0)) (.int 0) := (Arv.new A56 (jcD hn3).1).pad (jcR _)
   obtain ⟨v57k, F57k⟩ := fld_laid (fE_0.ext E56) (fE_1.ext E56) ow112 (Or.inr ow409)
   obtain ⟨T58, h58, X58, e58, W58, st58⟩ := putF X56 hx hZ12 hown12 (host := "") (Or.inl ow408) Via.refl e56 F57k (fE_0.ext E56) (Or.inr ⟨ow409, rfl, hnm⟩) ow112 (ty := (.array .int)) (by decide) rfl rfl (g := (jd m 134 (oR tt) (oR ns) (oR ww) (oR pp) (oR sl) (oR it) s6E ou ou ou ou [(.ref b56), (.ref tt)])) rfl rfl (dd 53 rfl)
   refine ja st58 ?_
   have nt_b56_tt : b56 ≠ tt := Ne.symm (Nat.ne_of_lt (Nat.lt_of_lt_of_le fE_0.lt (Nat.le_of_eq g56.symm)))
   have f58_14 : Fld Z h58 tt S7' S36' "[I" (.ref b56) := F57k.same W58
   have N58 := Fr.snoc X58 N55 g_tt
   have Z58 : n0 ≤ h58.size := Nat.le_trans Z56 (Keep.of_wr W58).1
   have g59f := (fE_2.ext E56).keep (Keep.of_wr W58) (allS ⟨_, (fE_0.ext E56), by decide⟩ all0)
   refine ja (A := oW p e below T58 (jd m 139 (oR tt) (oR ns) (oR ww) (oR pp) (oR sl) (oR it) s6E ou ou ou ou [(.ref pp), (.ref tt)])) (fun t k => by
    refine XS.aloadN X58.here hx rfl (dd 54 rfl) rfl rfl ?_
    refine XS.aloadN X58.here hx rfl (dd 55 rfl) rfl rfl ?_
    exact k) ?_
   obtain ⟨_, T60, L60, X60, hQ60, st60⟩ := jaI X58 hx hZ12 hown12 ow398 ow399 ow401 ow402 (mvT hZ12 ow400) ow403 ow404 ow405 ow406 ow3 (jcu l Z a0 hw [] pp (Int32.ofNat nn) h58 n0 Z58 g59f.2.1) e58 g59f.1 (by decide) (g := (jd m 139 (oR tt) (oR ns) (oR ww) (oR pp) (oR sl) (oR it) s6E ou ou ou ou [(.ref pp), (.ref tt)])) rfl (by rw [hml]; rfl) (rest := [(.ref tt)]) rfl (lenOf jag rfl) rfl (W := 1) (Nat.le_of_eq rfl) (dd 56 rfl) (by decide)
   obtain ⟨rfl, N60q, eh60⟩ := hQ60
   have N60 := Fr.app N58 N60q
   refine ja st60 ?_
   obtain ⟨T61, h61, k61, X61, e61, E61, A61, Q61, st61⟩ := newPE X60 hx hZ12 (aty := .int) ow407 eh60 (g := (jd m 144 (oR tt) (oR ns) (oR ww) (oR pp) (oR sl) (oR it) s6E ou ou ou ou [(.int (Int32.ofNat nn)), (.ref tt)])) rfl (dd 57 rfl) rfl (jcD hn3).1 (cap := 3) (jcD hn3).2.2 (by decide) (by decide) (by decide) (ad := "[I") (by decide)
   obtain ⟨b61, g61⟩ : ∃ z, z = h58.size := ⟨_, rfl⟩
   rw [← g61] at A61 Q61 st61
   refine ja st61 ?_
   have g_b61 : n0 ≤ b61 := Nat.le_trans Z58 (Nat.le_of_eq g61.symm)
   have Z61 : n0 ≤ h61.size := Nat.le_trans Z58 E61.1
   have V61 : Arv Z h61 b61 k61 .int (Int32.ofNat nn) (oM (jbf ds nn 0)) (.int 0) := (Arv.new A61 (jcD hn3).1).pad (jcR _)
   have g63f := ((fE_1.ext E56).keep (Keep.of_wr W58)).ext E61
   obtain ⟨v62k, F62k⟩ := fld_laid (((fE_0.ext E56).wr W58).ext E61) g63f ow112 (Or.inr ow411)
   obtain ⟨T64, h64, X64, e64, W64, st64⟩ := putF X61 hx hZ12 hown12 (host := "") (Or.inl ow410) Via.refl e61 F62k (((fE_0.ext E56).wr W58).ext E61) (Or.inr ⟨ow411, rfl, hnm⟩) ow112 (ty := (.array .int)) (by decide) rfl rfl (g := (jd m 146 (oR tt) (oR ns) (oR ww) (oR pp) (oR sl) (oR it) s6E ou ou ou ou [(.ref b61), (.ref tt)])) rfl rfl (dd 58 rfl)
   refine ja st64 ?_
   have f64_8 := (((fE_9.ext E56).keep (Keep.of_wr W58) (allS ⟨_, (fE_0.ext E56), by decide⟩ all0)).ext E61).keep (Keep.of_wr W64) (allS ⟨_, (((fE_0.ext E56).wr W58).ext E61), by decide⟩ all0)
   have f64_10 := (((mp54.ext E56).keep (Keep.of_wr W58) (allS ⟨_, (fE_0.ext E56), by decide⟩ all0)).ext E61).keep (Keep.of_wr W64) (allS ⟨_, (((fE_0.ext E56).wr W58).ext E61), by decide⟩ all0)
   have f64_11 := (((wq54.ext E56).keep (Keep.of_wr W58) (allS ⟨_, (fE_0.ext E56), by decide⟩ all0)).ext E61).keep (Keep.of_wr W64) (allS ⟨_, (((fE_0.ext E56).wr W58).ext E61), by decide⟩ all0)
   have nt_b61_tt : b61 ≠ tt := Ne.symm (Nat.ne_of_lt (Nat.lt_of_lt_of_le ((fE_0.ext E56).wr W58).lt (Nat.le_of_eq g61.symm)))
   have f64_17 : Fld Z h64 tt S7' S53' "[I" (.ref b61) := F62k.same W64
   have N64 := Fr.snoc X64 N60 g_tt
   have Z64 : n0 ≤ h64.size := Nat.le_trans Z61 (Keep.of_wr W64).1
   refine ja (A := oW p e below T64 (jd m 152 (oR tt) (oR ns) (oR ww) (oR pp) (oR sl) (oi 0) s6E ou ou ou ou [])) (fun t k => by
    refine XS.iconst X64.here hx rfl (dd 59 rfl) ?_
    refine XS.istore X64.here hx rfl (dd 60 rfl) rfl (l' := #[(oR tt), (oR ns), (oR ww), (oR pp), (oR sl), (oi 0), s6E, ou, ou, ou, ou]) rfl ?_
    exact k) ?_
   have g65f := (g59f.ext E61).keep (Keep.of_wr W64) (allS ⟨_, (((fE_0.ext E56).wr W58).ext E61), by decide⟩ all0)
   have g66f := (((fE_4.ext E56).other W58 (Or.inr (jgc hw))).ext E61).other W64 (Or.inr (jgf hw))
   have g67f := (((fE_7.ext E56).other W58 (Or.inr (jgd hw))).ext E61).other W64 (Or.inr (jgg hw))
   have g68f := (((fE_8.ext E56).keep (Keep.of_wr W58)).ext E61).keep (Keep.of_wr W64)
   have g69f := (((fE_12.ext E56).other W58 (Or.inr (jge hw))).ext E61).other W64 (Or.inr (jgh hw))
   have g70f := ((V56.other W58 (nt_b56_tt)).ext E61).other W64 (nt_b56_tt)
   have g71f := (f58_14.ext E61).other W64 (Or.inr (jgi hw))
   have g72f := (g59f.ext E61).keep (Keep.of_wr W64) (allS ⟨_, (((fE_0.ext E56).wr W58).ext E61), by decide⟩ all0)
   have g73f := (((fE_4.ext E56).other W58 (Or.inr (jgc hw))).ext E61).other W64 (Or.inr (jgf hw))
   have g74f := (((fE_7.ext E56).other W58 (Or.inr (jgd hw))).ext E61).other W64 (Or.inr (jgg hw))
   have g75f := (((fE_8.ext E56).keep (Keep.of_wr W58)).ext E61).keep (Keep.of_wr W64)
   have g76f := (((fE_12.ext E56).other W58 (Or.inr (jge hw))).ext E61).other W64 (Or.inr (jgh hw))
   have g77f := (f58_14.ext E61).other W64 (Or.inr (jgi hw))
   have lpA : ∀ (nA iA : Nat) (s6A : Slot) (TA : State) (locsA : List Loc) (hA : Heap) (rA : iA + nA = nn) (XA : Stand p l e ({ frames := 9, cells := 23, slots := 129, locals := 130 } : Room) sv m #[(.ref tt), (.ref ns), (.ref ww), (.ref pp), (.ref sl)] below meth c TA locsA 17 110) (eA : TA.heap = hA) (NA : Fr n0 locsA) (ZA : n0 ≤ hA.size) (sdA : s6A = .unset ∨ ∃ w, s6A = .val w ∧ w.category = 1) (fA_0 : Exa Z hA tt S7') (fA_1 : jbO hA tt) (fA_2 : jch Z n0 hA pp sl pea ca de em cz mc nn ss ds) (fA_3 : Fld Z hA tt S7' S42' S43' (.ref b2)) (fA_4 : Exa Z hA b6 S10') (fA_5 : Exa Z hA wa "[J") (fA_6 : Fld Z hA tt S7' S48' S49' (.ref b6)) (fA_7 : jbN k12 hA) (fA_8 : jck Z n0 hA b6 wa) (fA_9 : Fld Z hA tt S7' "wires" S14' (.ref wl)) (fA_10 : jbl Z n0 hA b2 kk) (fA_11 : jcg Z hA wl kk) (fA_12 : Arv Z hA b56 k56 .int (Int32.ofNat nn) (oM (jbf ss nn iA)) (.int 0)) (fA_13 : Exa Z hA b56 "[I") (fA_14 : Fld Z hA tt S7' S36' "[I" (.ref b56)) (fA_15 : Arv Z hA b61 k61 .int (Int32.ofNat nn) (oM (jbf ds nn iA)) (.int 0)) (fA_16 : Exa Z hA b61 "[I") (fA_17 : Fld Z hA tt S7' S53' "[I" (.ref b61)), ∃ t o, oW p e below TA (jd m 152 (oR tt) (oR ns) (oR ww) (oR pp) (oR sl) (oi (Int32.ofNat iA)) s6A ou ou ou ou []) t ∧ Pf t o := by
    intro nA
    induction nA with
    | zero =>
     intro iA s6A TA locsA hA rA XA eA NA ZA sdA fA_0 fA_1 fA_2 fA_3 fA_4 fA_5 fA_6 fA_7 fA_8 fA_9 fA_10 fA_11 fA_12 fA_13 fA_14 fA_15 fA_16 fA_17
     have hiA : iA = nn := by omega
     refine ja (A := oW p e below TA (jd m 155 (oR tt) (oR ns) (oR ww) (oR pp) (oR sl) (oi (Int32.ofNat iA)) s6A ou ou ou ou [(.ref pp), (.int (Int32.ofNat iA))])) (fun t k => by
      refine XS.iload XA.here hx rfl (dd 61 rfl) rfl ?_
      show oW p e below TA (jd m 154 (oR tt) (oR ns) (oR ww) (oR pp) (oR sl) (oi (Int32.ofNat iA)) s6A ou ou ou ou [(.int (Int32.ofNat iA))]) _
      refine XS.aloadN XA.here hx rfl (dd 62 rfl) rfl rfl ?_
      exact k) ?_
     obtain ⟨_, T78, L78, X78, hQ78, st78⟩ := jaI XA hx hZ12 hown12 ow398 ow399 ow401 ow402 (mvT hZ12 ow400) ow403 ow404 ow405 ow406 ow3 (jcu l Z a0 hw [] pp (Int32.ofNat nn) hA n0 ZA fA_2.2.1) eA fA_2.1 (by decide) (g := (jd m 155 (oR tt) (oR ns) (oR ww) (oR pp) (oR sl) (oi (Int32.ofNat iA)) s6A ou ou ou ou [(.ref pp), (.int (Int32.ofNat iA))])) rfl (by rw [hml]; rfl) (rest := [(.int (Int32.ofNat iA))]) rfl (lenOf jag rfl) rfl (W := 1) (Nat.le_of_eq rfl) (dd 63 rfl) (by decide)
     obtain ⟨rfl, N78q, eh78⟩ := hQ78
     have N78 := Fr.app NA N78q
     refine ja st78 ?_
     refine ja (A := oW p e below T78 (jd m 272 (oR tt) (oR ns) (oR ww) (oR pp) (oR sl) (oi (Int32.ofNat iA)) s6A ou ou ou ou [])) (fun t k => by
      refine XS.icmpYes X78.here hx rfl (pc0 := 160) (pc' := 272) rfl (dd 64 rfl) rfl (flt ((jU iA (by omega) nn (by omega)).2.1 (by omega))).2.1 (by decide) (by decide) ?_
      exact k) ?_
     have Vx79 : Arv Z hA b56 k56 .int (Int32.ofNat nn) (oM ss) (.int 0) := by have q := fA_12; rw [hiA, jlj hsl hn3] at q; exact q
     refine ja (A := oW p e below T78 (jd m 274 (oR tt) (oR ns) (oR ww) (oR pp) (oR sl) (oi (Int32.ofNat iA)) s6A ou ou ou ou [(.ref tt), (.ref tt)])) (fun t k => by
      refine XS.aloadN X78.here hx rfl (dd 114 rfl) rfl rfl ?_
      refine XS.aloadN X78.here hx rfl (dd 115 rfl) rfl rfl ?_
      exact k) ?_
     obtain ⟨T80, X80, e80, st80⟩ := getF X78 hx hZ12 hown12 (host := "") (Or.inl ow250) Via.refl eh78 fA_9 (g := (jd m 274 (oR tt) (oR ns) (oR ww) (oR pp) (oR sl) (oi (Int32.ofNat iA)) s6A ou ou ou ou [(.ref tt), (.ref tt)])) rfl rfl (dd 116 rfl)
     refine ja st80 ?_
     obtain ⟨T81, L81, X81, e81, N81q, st81⟩ := jef (n0 := n0) hw X80 hx hZ12 hown12 fA_11 ZA e80 (g := (jd m 277 (oR tt) (oR ns) (oR ww) (oR pp) (oR sl) (oi (Int32.ofNat iA)) s6A ou ou ou ou [(.ref wl), (.ref tt)])) rfl (by rw [hml]; rfl) rfl (W := 1) (Nat.le_of_eq rfl) (dd 117 rfl) (by decide)
     refine ja st81 ?_
     have N81 := Fr.app N78 N81q
     refine ja (A := oW p e below T81 (jd m 284 (oR tt) (oR ns) (oR ww) (oR pp) (oR sl) (oi (Int32.ofNat iA)) s6A ou ou ou ou [(.int (kk + (1 : Int32))), (.ref tt)])) (fun t k => by
      refine XS.iconst X81.here hx rfl (dd 118 rfl) ?_
      show oW p e below T81 (jd m 283 (oR tt) (oR ns) (oR ww) (oR pp) (oR sl) (oi (Int32.ofNat iA)) s6A ou ou ou ou [(.int 1), (.int kk), (.ref tt)]) _
      refine XS.iadd X81.here hx rfl (dd 119 rfl) rfl ?_
      exact k) ?_
     obtain ⟨T82, h82, k82, X82, e82, E82, A82, Q82, st82⟩ := newPE X81 hx hZ12 (aty := .int) ow407 e81 (g := (jd m 284 (oR tt) (oR ns) (oR ww) (oR pp) (oR sl) (oi (Int32.ofNat iA)) s6A ou ou ou ou [(.int (kk + (1 : Int32))), (.ref tt)])) rfl (dd 120 rfl) rfl (jce hk).1 (cap := 4) (jjq hk).2.2 (by decide) (by decide) (by decide) (ad := "[I") (by decide)
     obtain ⟨b82, g82⟩ : ∃ z, z = hA.size := ⟨_, rfl⟩
     rw [← g82] at A82 Q82 st82
     refine ja st82 ?_
     have g_b82 : n0 ≤ b82 := Nat.le_trans ZA (Nat.le_of_eq g82.symm)
     have Z82 : n0 ≤ h82.size := Nat.le_trans ZA E82.1
     have V82 : Arv Z h82 b82 k82 .int (kk + (1 : Int32)) (oM (jw (je kk + 1) ss 0)) (.int 0) := (Arv.new A82 (jce hk).1).pad (jcR _)
     obtain ⟨v83k, F83k⟩ := fld_laid (fA_0.ext E82) (fA_1.ext E82) ow112 (Or.inr ow506)
     obtain ⟨T84, h84, X84, e84, W84, st84⟩ := putF X82 hx hZ12 hown12 (host := "") (Or.inl ow505) Via.refl e82 F83k (fA_0.ext E82) (Or.inr ⟨ow506, rfl, hnm⟩) ow112 (ty := (.array .int)) (by decide) rfl rfl (g := (jd m 286 (oR tt) (oR ns) (oR ww) (oR pp) (oR sl) (oi (Int32.ofNat iA)) s6A ou ou ou ou [(.ref b82), (.ref tt)])) rfl rfl (dd 121 rfl)
     refine ja st84 ?_
     have nt_b82_tt : b82 ≠ tt := Ne.symm (Nat.ne_of_lt (Nat.lt_of_lt_of_le fA_0.lt (Nat.le_of_eq g82.symm)))
     have f84_11 : Fld Z h84 tt S7' S41' "[I" (.ref b82) := F83k.same W84
     have N84 := Fr.snoc X84 N81 g_tt
     have Z84 : n0 ≤ h84.size := Nat.le_trans Z82 (Keep.of_wr W84).1
     have g85f := (fA_14.ext E82).other W84 (Or.inr (jkE hw))
     refine ja (A := oW p e below T84 (jd m 290 (oR tt) (oR ns) (oR ww) (oR pp) (oR sl) (oi (Int32.ofNat iA)) s6A ou ou ou ou [(.ref tt)])) (fun t k => by
      refine XS.aloadN X84.here hx rfl (dd 122 rfl) rfl rfl ?_
      exact k) ?_
     obtain ⟨T86, X86, e86, st86⟩ := getF X84 hx hZ12 hown12 (host := "") (Or.inl ow408) Via.refl e84 g85f (g := (jd m 290 (oR tt) (oR ns) (oR ww) (oR pp) (oR sl) (oi (Int32.ofNat iA)) s6A ou ou ou ou [(.ref tt)])) rfl rfl (dd 123 rfl)
     refine ja st86 ?_
     refine ja (A := oW p e below T86 (jd m 303 (oR tt) (oR ns) (oR ww) (oR pp) (oR sl) (oR b56) (oi (Int32.ofNat nn)) (oi 0) ou ou ou [])) (fun t k => by
      refine XS.astore X86.here hx rfl (dd 124 rfl) rfl rfl (l' := #[(oR tt), (oR ns), (oR ww), (oR pp), (oR sl), (oR b56), s6A, ou, ou, ou, ou]) rfl ?_
      refine XS.aload X86.here hx rfl (dd 125 rfl) rfl rfl ?_
      refine jM X86 hx hZ12 e86 ((Vx79.ext E82).other W84 (nt_b56_tt)) (g := (jd m 297 (oR tt) (oR ns) (oR ww) (oR pp) (oR sl) (oR b56) s6A ou ou ou ou [(.ref b56)])) rfl rfl (dd 126 rfl) _ ?_
      show oW p e below T86 (jd m 298 (oR tt) (oR ns) (oR ww) (oR pp) (oR sl) (oR b56) s6A ou ou ou ou [(.int (Int32.ofNat nn))]) _
      refine XS.istore X86.here hx rfl (dd 127 rfl) rfl (l' := #[(oR tt), (oR ns), (oR ww), (oR pp), (oR sl), (oR b56), (oi (Int32.ofNat nn)), ou, ou, ou, ou]) (XS.store1 rfl (sdA) (rfl)) ?_
      refine XS.iconst X86.here hx rfl (dd 128 rfl) ?_
      refine XS.istore X86.here hx rfl (dd 129 rfl) rfl (l' := #[(oR tt), (oR ns), (oR ww), (oR pp), (oR sl), (oR b56), (oi (Int32.ofNat nn)), (oi 0), ou, ou, ou]) rfl ?_
      exact k) ?_
     have g87f := (fA_2.ext E82).keep (Keep.of_wr W84) (allS ⟨_, (fA_0.ext E82), by decide⟩ all0)
     have g88f := (fA_9.ext E82).other W84 (Or.inr (jgj hw))
     have g89f := (fA_11.ext E82).keep (Keep.of_wr W84) (allS ⟨_, (fA_0.ext E82), by decide⟩ all0)
     have g90f := (fA_2.ext E82).keep (Keep.of_wr W84) (allS ⟨_, (fA_0.ext E82), by decide⟩ all0)
     have g91f := (fA_9.ext E82).other W84 (Or.inr (jgj hw))
     have g92f := (fA_11.ext E82).keep (Keep.of_wr W84) (allS ⟨_, (fA_0.ext E82), by decide⟩ all0)
     have lpB : ∀ (nB iB : Nat) (s8B : Slot) (TB : State) (locsB : List Loc) (hB : Heap) (rB : iB + nB = nn) (XB : Stand p l e ({ frames := 9, cells := 23, slots := 129, locals := 130 } : Room) sv m #[(.ref tt), (.ref ns), (.ref ww), (.ref pp), (.ref sl)] below meth c TB locsB 18 114) (eB : TB.heap = hB) (NB : Fr n0 locsB) (ZB : n0 ≤ hB.size) (sdB : s8B = .unset ∨ ∃ w, s8B = .val w ∧ w.category = 1) (fB_0 : Exa Z hB tt S7') (fB_1 : jbO hB tt) (fB_2 : jch Z n0 hB pp sl pea ca de em cz mc nn ss ds) (fB_3 : jbN k12 hB) (fB_4 : Fld Z hB tt S7' "wires" S14' (.ref wl)) (fB_5 : jcg Z hB wl kk) (fB_6 : Arv Z hB b56 k56 .int (Int32.ofNat nn) (oM ss) (.int 0)) (fB_7 : Exa Z hB b56 "[I") (fB_8 : Fld Z hB tt S7' S36' "[I" (.ref b56)) (fB_9 : Arv Z hB b82 k82 .int (kk + (1 : Int32)) (oM (jw (je kk + 1) ss iB)) (.int 0)) (fB_10 : Exa Z hB b82 "[I") (fB_11 : Fld Z hB tt S7' S41' "[I" (.ref b82)), ∃ t o, oW p e below TB (jd m 303 (oR tt) (oR ns) (oR ww) (oR pp) (oR sl) (oR b56) (oi (Int32.ofNat nn)) (oi (Int32.ofNat iB)) s8B ou ou []) t ∧ Pf t o := by
      intro nB
      induction nB with
      | zero =>
       intro iB s8B TB locsB hB rB XB eB NB ZB sdB fB_0 fB_1 fB_2 fB_3 fB_4 fB_5 fB_6 fB_7 fB_8 fB_9 fB_10 fB_11
       have hiB : iB = nn := by omega
       refine ja (A := oW p e below TB (jd m 336 (oR tt) (oR ns) (oR ww) (oR pp) (oR sl) (oR b56) (oi (Int32.ofNat nn)) (oi (Int32.ofNat iB)) s8B ou ou [])) (fun t k => by
        refine XS.iload XB.here hx rfl (dd 130 rfl) rfl ?_
        refine XS.iload XB.here hx rfl (dd 131 rfl) rfl ?_
        show oW p e below TB (jd m 307 (oR tt) (oR ns) (oR ww) (oR pp) (oR sl) (oR b56) (oi (Int32.ofNat nn)) (oi (Int32.ofNat iB)) s8B ou ou [(.int (Int32.ofNat nn)), (.int (Int32.ofNat iB))]) _
        refine XS.icmpYes XB.here hx rfl (pc0 := 307) (pc' := 336) rfl (dd 132 rfl) rfl (flt ((jU iB (by omega) nn (by omega)).2.1 (by omega))).2.1 (by decide) (by decide) ?_
        exact k) ?_
       have Vx93 : Arv Z hB b82 k82 .int (kk + (1 : Int32)) (oM (jG (jw (je kk + 1) ss nn) 0)) (.int 0) := by have q := fB_9; rw [hiB] at q; exact q
       refine ja (A := oW p e below TB (jd m 339 (oR tt) (oR ns) (oR ww) (oR pp) (oR sl) (oi 0) (oi (Int32.ofNat nn)) (oi (Int32.ofNat iB)) s8B ou ou [])) (fun t k => by
        refine XS.iconst XB.here hx rfl (dd 149 rfl) ?_
        refine XS.istore XB.here hx rfl (dd 150 rfl) rfl (l' := #[(oR tt), (oR ns), (oR ww), (oR pp), (oR sl), (oi 0), (oi (Int32.ofNat nn)), (oi (Int32.ofNat iB)), s8B, ou, ou]) rfl ?_
        exact k) ?_
       have lpC : ∀ (nC iC : Nat) (TC : State) (locsC : List Loc) (hC : Heap) (rC : iC + nC = je kk) (XC : Stand p l e ({ frames := 9, cells := 23, slots := 129, locals := 130 } : Room) sv m #[(.ref tt), (.ref ns), (.ref ww), (.ref pp), (.ref sl)] below meth c TC locsC 18 114) (eC : TC.heap = hC) (NC : Fr n0 locsC) (ZC : n0 ≤ hC.size) (fC_0 : Exa Z hC tt S7') (fC_1 : jbO hC tt) (fC_2 : jch Z n0 hC pp sl pea ca de em cz mc nn ss ds) (fC_3 : jbN k12 hC) (fC_4 : Fld Z hC tt S7' "wires" S14' (.ref wl)) (fC_5 : jcg Z hC wl kk) (fC_6 : Arv Z hC b56 k56 .int (Int32.ofNat nn) (oM ss) (.int 0)) (fC_7 : Exa Z hC b56 "[I") (fC_8 : Fld Z hC tt S7' S36' "[I" (.ref b56)) (fC_9 : Arv Z hC b82 k82 .int (kk + (1 : Int32)) (oM (jG (jw (je kk + 1) ss nn) iC)) (.int 0)) (fC_10 : Exa Z hC b82 "[I") (fC_11 : Fld Z hC tt S7' S41' "[I" (.ref b82)), ∃ t o, oW p e below TC (jd m 339 (oR tt) (oR ns) (oR ww) (oR pp) (oR sl) (oi (Int32.ofNat iC)) (oi (Int32.ofNat nn)) (oi (Int32.ofNat iB)) s8B ou ou []) t ∧ Pf t o := by
        intro nC
        induction nC with
        | zero =>
         intro iC TC locsC hC rC XC eC NC ZC fC_0 fC_1 fC_2 fC_3 fC_4 fC_5 fC_6 fC_7 fC_8 fC_9 fC_10 fC_11
         have hiC : iC = je kk := by omega
         refine ja (A := oW p e below TC (jd m 342 (oR tt) (oR ns) (oR ww) (oR pp) (oR sl) (oi (Int32.ofNat iC)) (oi (Int32.ofNat nn)) (oi (Int32.ofNat iB)) s8B ou ou [(.ref tt), (.int (Int32.ofNat iC))])) (fun t k => by
          refine XS.iload XC.here hx rfl (dd 151 rfl) rfl ?_
          refine XS.aloadN XC.here hx rfl (dd 152 rfl) rfl rfl ?_
          exact k) ?_
         obtain ⟨T94, X94, e94, st94⟩ := getF XC hx hZ12 hown12 (host := "") (Or.inl ow250) Via.refl eC fC_4 (g := (jd m 342 (oR tt) (oR ns) (oR ww) (oR pp) (oR sl) (oi (Int32.ofNat iC)) (oi (Int32.ofNat nn)) (oi (Int32.ofNat iB)) s8B ou ou [(.ref tt), (.int (Int32.ofNat iC))])) rfl rfl (dd 153 rfl)
         refine ja st94 ?_
         obtain ⟨T95, L95, X95, e95, N95q, st95⟩ := jef (n0 := n0) hw X94 hx hZ12 hown12 fC_5 ZC e94 (g := (jd m 345 (oR tt) (oR ns) (oR ww) (oR pp) (oR sl) (oi (Int32.ofNat iC)) (oi (Int32.ofNat nn)) (oi (Int32.ofNat iB)) s8B ou ou [(.ref wl), (.int (Int32.ofNat iC))])) rfl (by rw [hml]; rfl) rfl (W := 1) (Nat.le_of_eq rfl) (dd 154 rfl) (by decide)
         refine ja st95 ?_
         have N95 := Fr.app NC N95q
         refine ja (A := oW p e below T95 (jd m 378 (oR tt) (oR ns) (oR ww) (oR pp) (oR sl) (oi (Int32.ofNat iC)) (oi (Int32.ofNat nn)) (oi (Int32.ofNat iB)) s8B ou ou [])) (fun t k => by
          refine XS.icmpYes X95.here hx rfl (pc0 := 350) (pc' := 378) rfl (dd 155 rfl) rfl (flt (by rw [hiC, (jce hk).2.2.2.1]; exact fun q => Int32.lt_irrefl q)).2.1 (by decide) (by decide) ?_
          exact k) ?_
         have Vx96 : Arv Z hC b82 k82 .int (kk + (1 : Int32)) (oM (jG (jw (je kk + 1) ss nn) (je kk))) (.int 0) := by have q := fC_9; rw [hiC] at q; exact q
         refine ja (A := oW p e below T95 (jd m 380 (oR tt) (oR ns) (oR ww) (oR pp) (oR sl) (oi (Int32.ofNat iC)) (oi (Int32.ofNat nn)) (oi (Int32.ofNat iB)) s8B ou ou [(.ref tt), (.ref tt)])) (fun t k => by
          refine XS.aloadN X95.here hx rfl (dd 171 rfl) rfl rfl ?_
          refine XS.aloadN X95.here hx rfl (dd 172 rfl) rfl rfl ?_
          exact k) ?_
         obtain ⟨T97, X97, e97, st97⟩ := getF X95 hx hZ12 hown12 (host := "") (Or.inl ow408) Via.refl e95 fC_8 (g := (jd m 380 (oR tt) (oR ns) (oR ww) (oR pp) (oR sl) (oi (Int32.ofNat iC)) (oi (Int32.ofNat nn)) (oi (Int32.ofNat iB)) s8B ou ou [(.ref tt), (.ref tt)])) rfl rfl (dd 173 rfl)
         refine ja st97 ?_
         refine ja (A := oW p e below T97 (jd m 384 (oR tt) (oR ns) (oR ww) (oR pp) (oR sl) (oi (Int32.ofNat iC)) (oi (Int32.ofNat nn)) (oi (Int32.ofNat iB)) s8B ou ou [(.int (Int32.ofNat nn)), (.ref tt)])) (fun t k => by
          refine jM X97 hx hZ12 e97 fC_6 (g := (jd m 383 (oR tt) (oR ns) (oR ww) (oR pp) (oR sl) (oi (Int32.ofNat iC)) (oi (Int32.ofNat nn)) (oi (Int32.ofNat iB)) s8B ou ou [(.ref b56), (.ref tt)])) rfl rfl (dd 174 rfl) _ ?_
          exact k) ?_
         obtain ⟨T98, h98, k98, X98, e98, E98, A98, Q98, st98⟩ := newPE X97 hx hZ12 (aty := .int) ow407 e97 (g := (jd m 384 (oR tt) (oR ns) (oR ww) (oR pp) (oR sl) (oi (Int32.ofNat iC)) (oi (Int32.ofNat nn)) (oi (Int32.ofNat iB)) s8B ou ou [(.int (Int32.ofNat nn)), (.ref tt)])) rfl (dd 175 rfl) rfl (jcD hn3).1 (cap := 3) (jcD hn3).2.2 (by decide) (by decide) (by decide) (ad := "[I") (by decide)
         obtain ⟨b98, g98⟩ : ∃ z, z = hC.size := ⟨_, rfl⟩
         rw [← g98] at A98 Q98 st98
         refine ja st98 ?_
         have g_b98 : n0 ≤ b98 := Nat.le_trans ZC (Nat.le_of_eq g98.symm)
         have Z98 : n0 ≤ h98.size := Nat.le_trans ZC E98.1
         have V98 : Arv Z h98 b98 k98 .int (Int32.ofNat nn) (oM (jcB ((jG (jw (je kk + 1) ss nn) (je kk)).take (je kk)) ss nn 0)) (.int 0) := (Arv.new A98 (jcD hn3).1).pad (jcR _)
         obtain ⟨v99k, F99k⟩ := fld_laid (fC_0.ext E98) (fC_1.ext E98) ow112 (Or.inr ow508)
         obtain ⟨T100, h100, X100, e100, W100, st100⟩ := putF X98 hx hZ12 hown12 (host := "") (Or.inl ow507) Via.refl e98 F99k (fC_0.ext E98) (Or.inr ⟨ow508, rfl, hnm⟩) ow112 (ty := (.array .int)) (by decide) rfl rfl (g := (jd m 386 (oR tt) (oR ns) (oR ww) (oR pp) (oR sl) (oi (Int32.ofNat iC)) (oi (Int32.ofNat nn)) (oi (Int32.ofNat iB)) s8B ou ou [(.ref b98), (.ref tt)])) rfl rfl (dd 176 rfl)
         refine ja st100 ?_
         have nt_b98_tt : b98 ≠ tt := Ne.symm (Nat.ne_of_lt (Nat.lt_of_lt_of_le fC_0.lt (Nat.le_of_eq g98.symm)))
         have f100_14 : Fld Z h100 tt S7' "pipsFrom" "[I" (.ref b98) := F99k.same W100
         have N100 := Fr.snoc X100 N95 g_tt
         have Z100 : n0 ≤ h100.size := Nat.le_trans Z98 (Keep.of_wr W100).1
         have g101f := (fC_11.ext E98).other W100 (Or.inr (jkG hw))
         refine ja (A := oW p e below T100 (jd m 390 (oR tt) (oR ns) (oR ww) (oR pp) (oR sl) (oi (Int32.ofNat iC)) (oi (Int32.ofNat nn)) (oi (Int32.ofNat iB)) s8B ou ou [(.ref tt)])) (fun t k => by
          refine XS.aloadN X100.here hx rfl (dd 177 rfl) rfl rfl ?_
          exact k) ?_
         obtain ⟨T102, X102, e102, st102⟩ := getF X100 hx hZ12 hown12 (host := "") (Or.inl ow505) Via.refl e100 g101f (g := (jd m 390 (oR tt) (oR ns) (oR ww) (oR pp) (oR sl) (oi (Int32.ofNat iC)) (oi (Int32.ofNat nn)) (oi (Int32.ofNat iB)) s8B ou ou [(.ref tt)])) rfl rfl (dd 178 rfl)
         refine ja st102 ?_
         have g103f := (fC_4.ext E98).other W100 (Or.inr (jkF hw))
         refine ja (A := oW p e below T102 (jd m 394 (oR tt) (oR ns) (oR ww) (oR pp) (oR sl) (oi (Int32.ofNat iC)) (oi (Int32.ofNat nn)) (oi (Int32.ofNat iB)) s8B ou ou [(.ref tt), (.ref b82)])) (fun t k => by
          refine XS.aloadN X102.here hx rfl (dd 179 rfl) rfl rfl ?_
          exact k) ?_
         obtain ⟨T104, X104, e104, st104⟩ := getF X102 hx hZ12 hown12 (host := "") (Or.inl ow250) Via.refl e102 g103f (g := (jd m 394 (oR tt) (oR ns) (oR ww) (oR pp) (oR sl) (oi (Int32.ofNat iC)) (oi (Int32.ofNat nn)) (oi (Int32.ofNat iB)) s8B ou ou [(.ref tt), (.ref b82)])) rfl rfl (dd 180 rfl)
         refine ja st104 ?_
         have g105f := (fC_5.ext E98).keep (Keep.of_wr W100) (allS ⟨_, (fC_0.ext E98), by decide⟩ all0)
         obtain ⟨T106, L106, X106, e106, N106q, st106⟩ := jef (n0 := n0) hw X104 hx hZ12 hown12 g105f Z100 e104 (g := (jd m 397 (oR tt) (oR ns) (oR ww) (oR pp) (oR sl) (oi (Int32.ofNat iC)) (oi (Int32.ofNat nn)) (oi (Int32.ofNat iB)) s8B ou ou [(.ref wl), (.ref b82)])) rfl (by rw [hml]; rfl) rfl (W := 1) (Nat.le_of_eq rfl) (dd 181 rfl) (by decide)
         refine ja st106 ?_
         have N106 := Fr.app N100 N106q
         obtain ⟨_, T107, L107, X107, hQ107, st107⟩ := jH X106 hx hZ12 hown12 ow509 ow510 ow511 ow198 (jhQ l Z a0 hw [] b82 kk k82 (jG (jw (je kk + 1) ss nn) (je kk)) h100 n0 Z100 hk (by rw [jfB, jee]) ((fC_10.ext E98).wr W100) ((Vx96.ext E98).other W100 (nt_b82_tt))) e106 (by decide) (g := (jd m 402 (oR tt) (oR ns) (oR ww) (oR pp) (oR sl) (oi (Int32.ofNat iC)) (oi (Int32.ofNat nn)) (oi (Int32.ofNat iB)) s8B ou ou [(.int kk), (.ref b82)])) rfl (by rw [hml]; rfl) (rest := []) rfl (lenOf jcT rfl) rfl (W := 0) (Nat.le_of_eq rfl) (dd 182 rfl) (by decide)
         obtain ⟨na, kna, rfl, N107q, K107q, s_na, p107_0, p107_1⟩ := hQ107
         have N107 := Fr.app N106 N107q
         have g_na : n0 ≤ na := Nat.le_trans Z100 s_na
         have Z107 : n0 ≤ T107.heap.size := Nat.le_trans Z100 K107q.1
         refine ja st107 ?_
         refine ja (A := oW p e below T107 (jd m 410 (oR tt) (oR ns) (oR ww) (oR pp) (oR sl) (oR na) (oi 0) (oi (Int32.ofNat iB)) s8B ou ou [])) (fun t k => by
          refine XS.astore X107.here hx rfl (dd 183 rfl) rfl rfl (l' := #[(oR tt), (oR ns), (oR ww), (oR pp), (oR sl), (oR na), (oi (Int32.ofNat nn)), (oi (Int32.ofNat iB)), s8B, ou, ou]) rfl ?_
          refine XS.iconst X107.here hx rfl (dd 184 rfl) ?_
          refine XS.istore X107.here hx rfl (dd 185 rfl) rfl (l' := #[(oR tt), (oR ns), (oR ww), (oR pp), (oR sl), (oR na), (oi 0), (oi (Int32.ofNat iB)), s8B, ou, ou]) rfl ?_
          exact k) ?_
         have g108f := ((fC_1.ext E98).keep (Keep.of_wr W100)).keep K107q
         have g109f := ((fC_2.ext E98).keep (Keep.of_wr W100) (allS ⟨_, (fC_0.ext E98), by decide⟩ all0)).keep K107q all0
         have g110f := ((fC_3.ext E98).keep (Keep.of_wr W100)).keep K107q
         have g111f := ((fC_6.ext E98).other W100 (nt_b56_tt)).keep K107q nin0
         have g112f := ((fC_8.ext E98).other W100 (Or.inr (jgk hw))).keep K107q nin0
         have g113f := ((Vx96.ext E98).other W100 (nt_b82_tt)).keep K107q nin0
         have g114f := (V98.other W100 (nt_b98_tt)).keep K107q nin0
         have g115f := ((fC_1.ext E98).keep (Keep.of_wr W100)).keep K107q
         have g116f := ((fC_2.ext E98).keep (Keep.of_wr W100) (allS ⟨_, (fC_0.ext E98), by decide⟩ all0)).keep K107q all0
         have g117f := ((fC_3.ext E98).keep (Keep.of_wr W100)).keep K107q
         have g118f := ((fC_6.ext E98).other W100 (nt_b56_tt)).keep K107q nin0
         have g119f := ((fC_8.ext E98).other W100 (Or.inr (jgk hw))).keep K107q nin0
         have g120f := ((Vx96.ext E98).other W100 (nt_b82_tt)).keep K107q nin0
         have lpD : ∀ (nD iD : Nat) (TD : State) (locsD : List Loc) (hD : Heap) (rD : iD + nD = nn) (XD : Stand p l e ({ frames := 9, cells := 23, slots := 129, locals := 130 } : Room) sv m #[(.ref tt), (.ref ns), (.ref ww), (.ref pp), (.ref sl)] below meth c TD locsD 20 120) (eD : TD.heap = hD) (ND : Fr n0 locsD) (ZD : n0 ≤ hD.size) (fD_0 : Exa Z hD tt S7') (fD_1 : jbO hD tt) (fD_2 : jch Z n0 hD pp sl pea ca de em cz mc nn ss ds) (fD_3 : jbN k12 hD) (fD_4 : Arv Z hD b56 k56 .int (Int32.ofNat nn) (oM ss) (.int 0)) (fD_5 : Exa Z hD b56 "[I") (fD_6 : Fld Z hD tt S7' S36' "[I" (.ref b56)) (fD_7 : Arv Z hD b82 k82 .int (kk + (1 : Int32)) (oM (jG (jw (je kk + 1) ss nn) (je kk))) (.int 0)) (fD_8 : Exa Z hD b82 "[I") (fD_9 : Fld Z hD tt S7' S41' "[I" (.ref b82)) (fD_10 : Arv Z hD b98 k98 .int (Int32.ofNat nn) (oM (jcB ((jG (jw (je kk + 1) ss nn) (je kk)).take (je kk)) ss nn iD)) (.int 0)) (fD_11 : Exa Z hD b98 "[I") (fD_12 : Fld Z hD tt S7' "pipsFrom" "[I" (.ref b98)) (fD_13 : Exa Z hD na "[I") (fD_14 : Arv Z hD na kna .int kk (oM (jak ((jG (jw (je kk + 1) ss nn) (je kk)).take (je kk)) ss iD)) (.int 0)), ∃ t o, oW p e below TD (jd m 410 (oR tt) (oR ns) (oR ww) (oR pp) (oR sl) (oR na) (oi (Int32.ofNat iD)) (oi (Int32.ofNat iB)) s8B ou ou []) t ∧ Pf t o := by
          intro nD
          induction nD with
          | zero =>
           intro iD TD locsD hD rD XD eD ND ZD fD_0 fD_1 fD_2 fD_3 fD_4 fD_5 fD_6 fD_7 fD_8 fD_9 fD_10 fD_11 fD_12 fD_13 fD_14
           have hiD : iD = nn := by omega
           refine ja (A := oW p e below TD (jd m 413 (oR tt) (oR ns) (oR ww) (oR pp) (oR sl) (oR na) (oi (Int32.ofNat iD)) (oi (Int32.ofNat iB)) s8B ou ou [(.ref tt), (.int (Int32.ofNat iD))])) (fun t k => by
            refine XS.iload XD.here hx rfl (dd 186 rfl) rfl ?_
            show oW p e below TD (jd m 412 (oR tt) (oR ns) (oR ww) (oR pp) (oR sl) (oR na) (oi (Int32.ofNat iD)) (oi (Int32.ofNat iB)) s8B ou ou [(.int (Int32.ofNat iD))]) _
            refine XS.aloadN XD.here hx rfl (dd 187 rfl) rfl rfl ?_
            exact k) ?_
           obtain ⟨T121, X121, e121, st121⟩ := getF XD hx hZ12 hown12 (host := "") (Or.inl ow408) Via.refl eD fD_6 (g := (jd m 413 (oR tt) (oR ns) (oR ww) (oR pp) (oR sl) (oR na) (oi (Int32.ofNat iD)) (oi (Int32.ofNat iB)) s8B ou ou [(.ref tt), (.int (Int32.ofNat iD))])) rfl rfl (dd 188 rfl)
           refine ja st121 ?_
           refine ja (A := oW p e below T121 (jd m 448 (oR tt) (oR ns) (oR ww) (oR pp) (oR sl) (oR na) (oi (Int32.ofNat iD)) (oi (Int32.ofNat iB)) s8B ou ou [])) (fun t k => by
            refine jM X121 hx hZ12 e121 fD_4 (g := (jd m 416 (oR tt) (oR ns) (oR ww) (oR pp) (oR sl) (oR na) (oi (Int32.ofNat iD)) (oi (Int32.ofNat iB)) s8B ou ou [(.ref b56), (.int (Int32.ofNat iD))])) rfl rfl (dd 189 rfl) _ ?_
            refine XS.icmpYes X121.here hx rfl (pc0 := 417) (pc' := 448) rfl (dd 190 rfl) rfl (flt ((jU iD (by omega) nn (by omega)).2.1 (by omega))).2.1 (by decide) (by decide) ?_
            exact k) ?_
           obtain ⟨T122, h122, X122, e122, E122, A122, D122, -, st122⟩ := newO X121 hx hZ12 hown12 ow512 ow2 ow3 e121 (g := (jd m 448 (oR tt) (oR ns) (oR ww) (oR pp) (oR sl) (oR na) (oi (Int32.ofNat iD)) (oi (Int32.ofNat iB)) s8B ou ou [])) rfl (dd 208 rfl) (by decide) (by decide)
           obtain ⟨b122, g122⟩ : ∃ z, z = hD.size := ⟨_, rfl⟩
           rw [← g122] at A122 D122 st122
           refine ja st122 ?_
           have g_b122 : n0 ≤ b122 := Nat.le_trans ZD (Nat.le_of_eq g122.symm)
           have Z122 : n0 ≤ h122.size := Nat.le_trans ZD E122.1
           have F122_modCount : Fld Z h122 b122 S19' S12' "I" (.int 0) := D122 (Or.inl ow23) (ty := .int) (by decide)
           have F122_elementData : Fld Z h122 b122 S3' S15' S4' .null := D122 (Or.inl ow26) (ty := (.array (.object S0'))) (by decide)
           have F122_size : Fld Z h122 b122 S3' S8' "I" (.int 0) := D122 (Or.inl ow63) (ty := .int) (by decide)
           refine ja (A := oW p e below T122 (jd m 452 (oR tt) (oR ns) (oR ww) (oR pp) (oR sl) (oR na) (oi (Int32.ofNat iD)) (oi (Int32.ofNat iB)) s8B ou ou [(.ref b122), (.ref b122)])) (fun t k => by
            refine XS.dup X122.here hx rfl (dd 209 rfl) rfl rfl ?_
            exact k) ?_
           obtain ⟨_, T123, L123, X123, hQ123, st123⟩ := jaF X122 hx hZ12 hown12 ow513 ow5 ow6 ow3 (jct l Z a0 hw [] b122 de h122 n0 Z122 A122 F122_modCount g_b122 F122_elementData F122_size (fD_2.2.2.2.2.2.2.2.2.2.1.ext E122)) e122 rfl (by decide) (g := (jd m 452 (oR tt) (oR ns) (oR ww) (oR pp) (oR sl) (oR na) (oi (Int32.ofNat iD)) (oi (Int32.ofNat iB)) s8B ou ou [(.ref b122), (.ref b122)])) rfl (by rw [hml]; rfl) (rest := [(.ref b122)]) rfl (lenOf jS rfl) rfl (W := 1) (Nat.le_of_eq rfl) (dd 210 rfl) (by decide)
           obtain ⟨rfl, N123q, K123q, p123_0, p123_1, p123_2⟩ := hQ123
           have N123 := Fr.app ND N123q
           have nt_b82_b122 : b82 ≠ b122 := Nat.ne_of_lt (Nat.lt_of_lt_of_le fD_7.lt (Nat.le_of_eq g122.symm))
           have nt_tt_b122 : tt ≠ b122 := Nat.ne_of_lt (Nat.lt_of_lt_of_le fD_0.lt (Nat.le_of_eq g122.symm))
           have nt_sl_b122 : sl ≠ b122 := Nat.ne_of_lt (Nat.lt_of_lt_of_le fD_2.2.2.2.2.1.lt (Nat.le_of_eq g122.symm))
           have Z123 : n0 ≤ T123.heap.size := Nat.le_trans Z122 K123q.1
           refine ja st123 ?_
           refine ja (A := oW p e below T123 (jd m 459 (oR tt) (oR ns) (oR ww) (oR pp) (oR sl) (oR na) (oR b122) (oi (Int32.ofNat iB)) s8B ou ou [(.ref sl)])) (fun t k => by
            refine XS.astore X123.here hx rfl (dd 211 rfl) rfl rfl (l' := #[(oR tt), (oR ns), (oR ww), (oR pp), (oR sl), (oR na), (oR b122), (oi (Int32.ofNat iB)), s8B, ou, ou]) rfl ?_
            show oW p e below T123 (jd m 457 (oR tt) (oR ns) (oR ww) (oR pp) (oR sl) (oR na) (oR b122) (oi (Int32.ofNat iB)) s8B ou ou []) _
            refine XS.aload X123.here hx rfl (dd 212 rfl) rfl rfl ?_
            exact k) ?_
           have g125f := (fD_2.2.2.2.2.2.2.1.ext E122).keep K123q (ninS nt_sl_b122 nin0)
           obtain ⟨_, T124, L124, X124, hQ124, st124⟩ := jaI X123 hx hZ12 hown12 ow252 ow253 ow514 ow515 (mvT hZ12 ow254) ow516 ow517 ow405 ow518 ow3 (jhG l Z a0 hw [] sl mc T123.heap n0 Z123 ((fD_2.2.2.2.2.1.ext E122).keep K123q) g125f) rfl ((fD_2.2.2.2.2.1.ext E122).keep K123q) (by decide) (g := (jd m 459 (oR tt) (oR ns) (oR ww) (oR pp) (oR sl) (oR na) (oR b122) (oi (Int32.ofNat iB)) s8B ou ou [(.ref sl)])) rfl (by rw [hml]; rfl) (rest := []) rfl (lenOf jZ rfl) rfl (W := 0) (Nat.le_of_eq rfl) (dd 213 rfl) (by decide)
           obtain ⟨ai, rfl, N124q, K124q, s_ai, p124_0, p124_1, p124_2⟩ := hQ124
           have N124 := Fr.app N123 N124q
           have g_ai : n0 ≤ ai := Nat.le_trans Z123 s_ai
           have Z124 : n0 ≤ T124.heap.size := Nat.le_trans Z123 K124q.1
           refine ja st124 ?_
           refine ja (A := oW p e below T124 (jd m 468 (oR tt) (oR ns) (oR ww) (oR pp) (oR sl) (oR na) (oR b122) (oR ai) s8B ou ou [(.ref ai)])) (fun t k => by
            refine XS.astore X124.here hx rfl (dd 214 rfl) rfl rfl (l' := #[(oR tt), (oR ns), (oR ww), (oR pp), (oR sl), (oR na), (oR b122), (oR ai), s8B, ou, ou]) rfl ?_
            refine XS.aload X124.here hx rfl (dd 215 rfl) rfl rfl ?_
            exact k) ?_
           have g127f := ((fD_2.2.2.2.2.2.1.ext E122).keep K123q (ninS nt_sl_b122 nin0)).keep K124q nin0
           obtain ⟨_, T126, L126, X126, hQ126, st126⟩ := jaI X124 hx hZ12 hown12 ow283 ow284 ow534 ow535 (mvT hZ12 ow285) ow536 ow537 ow538 ow539 ow521 (jhH l Z a0 hw [] ai sl T124.heap n0 Z124 p124_1 p124_2 g127f) rfl p124_0 (by decide) (g := (jd m 468 (oR tt) (oR ns) (oR ww) (oR pp) (oR sl) (oR na) (oR b122) (oR ai) s8B ou ou [(.ref ai)])) rfl (by rw [hml]; rfl) (rest := []) rfl (lenOf jaJ rfl) rfl (W := 0) (Nat.le_of_eq rfl) (dd 216 rfl) (by decide)
           obtain ⟨rfl, N126q, eh126⟩ := hQ126
           have N126 := Fr.app N124 N126q
           refine ja st126 ?_
           refine ja (A := oW p e below T126 (jd m 674 (oR tt) (oR ns) (oR ww) (oR pp) (oR sl) (oR na) (oR b122) (oR ai) s8B ou ou [(.ref b122), (.ref tt)])) (fun t k => by
            refine XS.ifYes X126.here hx rfl (pc0 := 473) (pc' := 671) rfl (dd 217 rfl) rfl ((if0 _ _).trans (teq (by decide : (0 : Int32) = (0 : Int32))).1) (by decide) (by decide) ?_
            refine XS.aloadN X126.here hx rfl (dd 287 rfl) rfl rfl ?_
            show oW p e below T126 (jd m 672 (oR tt) (oR ns) (oR ww) (oR pp) (oR sl) (oR na) (oR b122) (oR ai) s8B ou ou [(.ref tt)]) _
            refine XS.aload X126.here hx rfl (dd 288 rfl) rfl rfl ?_
            exact k) ?_
           obtain ⟨_, T128, L128, X128, hQ128, st128⟩ := jH X126 hx hZ12 hown12 ow543 ow544 ow546 ow545 (jhL l Z a0 hw [] b122 ma mu mr T124.heap n0 Z124 hma hmu hmr ((A122.keep K123q).keep K124q)) eh126 (by decide) (g := (jd m 674 (oR tt) (oR ns) (oR ww) (oR pp) (oR sl) (oR na) (oR b122) (oR ai) s8B ou ou [(.ref b122), (.ref tt)])) rfl (by rw [hml]; rfl) (rest := [(.ref tt)]) rfl (lenOf jao rfl) rfl (W := 1) (Nat.le_of_eq rfl) (dd 289 rfl) (by decide)
           obtain ⟨ul, rfl, N128q, K128q, s_ul⟩ := hQ128
           have N128 := Fr.app N126 N128q
           have g_ul : n0 ≤ ul := Nat.le_trans Z124 s_ul
           have Z128 : n0 ≤ T128.heap.size := Nat.le_trans Z124 K128q.1
           refine ja st128 ?_
           have g130f := (((fD_0.ext E122).keep K123q).keep K124q).keep K128q
           have g131f := (((fD_1.ext E122).keep K123q).keep K124q).keep K128q
           obtain ⟨v129k, F129k⟩ := fld_laid g130f g131f ow112 (Or.inr ow583)
           obtain ⟨T132, h132, X132, e132, W132, st132⟩ := putF X128 hx hZ12 hown12 (host := "") (Or.inl ow582) Via.refl rfl F129k g130f (Or.inr ⟨ow583, rfl, hnm⟩) ow112 (ty := (.object S24')) (by decide) rfl rfl (g := (jd m 677 (oR tt) (oR ns) (oR ww) (oR pp) (oR sl) (oR na) (oR b122) (oR ai) s8B ou ou [(.ref ul), (.ref tt)])) rfl rfl (dd 290 rfl)
           refine ja st132 ?_
           have nt_sl_tt : sl ≠ tt := (Exa.ne ((((fD_2.2.2.2.2.1.ext E122).keep K123q).keep K124q).keep K128q) g130f (by decide))
           have nt_ai_tt : ai ≠ tt := Ne.symm (Nat.ne_of_lt (Nat.lt_of_lt_of_le ((fD_0.ext E122).keep K123q).lt s_ai))
           have f132_17 : Fld Z h132 tt S7' "sites" S14' (.ref ul) := F129k.same W132
           have N132 := Fr.snoc X132 N128 g_tt
           have Z132 : n0 ≤ h132.size := Nat.le_trans Z128 (Keep.of_wr W132).1
           have g133f := ((((fD_3.ext E122).keep K123q).keep K124q).keep K128q).keep (Keep.of_wr W132)
           subst h_sv
           obtain ⟨fs, hr, hrun, hended, hRW⟩ := X132.leaveW Sn12 (by rw [e132]; exact g133f) (v := none) (fun _ => rfl)
           refine ⟨_, _, X132.returnOut hx Bd.returns (dd 291 rfl) hr, hPf _ _ ⟨hrun, hended, _, _, rfl, ?_, hRW.1, hRW.2.1, hRW.2.2.1, hRW.2.2.2.mono (by decide) (by decide)⟩⟩
           show jeB Z tt ns ww pp sl kk nn ss ds pea ca de em cz mc ma mu mr mo h0 n0 _ T132.heap _
           rw [e132]
           have g134f := ((((fD_9.ext E122).keep K123q (ninS nt_tt_b122 nin0)).keep K124q nin0).keep K128q nin0).other W132 (Or.inr (jkH hw))
           have g135f := ((((fD_7.ext E122).keep K123q (ninS nt_b82_b122 nin0)).keep K124q nin0).keep K128q nin0).other W132 (nt_b82_tt)
           exact ⟨rfl, N132, (g130f.wr W132), b82, _, g134f, by have q := g135f; rw [show jbs kk ss = (jG (jw (je kk + 1) ss nn) (je kk)) from by rw [jbs, hsl]]; exact q⟩
          | succ nD ihD =>
           intro iD TD locsD hD rD XD eD ND ZD fD_0 fD_1 fD_2 fD_3 fD_4 fD_5 fD_6 fD_7 fD_8 fD_9 fD_10 fD_11 fD_12 fD_13 fD_14
           have hiD : iD < nn := by omega
           refine ja (A := oW p e below TD (jd m 413 (oR tt) (oR ns) (oR ww) (oR pp) (oR sl) (oR na) (oi (Int32.ofNat iD)) (oi (Int32.ofNat iB)) s8B ou ou [(.ref tt), (.int (Int32.ofNat iD))])) (fun t k => by
            refine XS.iload XD.here hx rfl (dd 186 rfl) rfl ?_
            refine XS.aloadN XD.here hx rfl (dd 187 rfl) rfl rfl ?_
            exact k) ?_
           obtain ⟨T136, X136, e136, st136⟩ := getF XD hx hZ12 hown12 (host := "") (Or.inl ow408) Via.refl eD fD_6 (g := (jd m 413 (oR tt) (oR ns) (oR ww) (oR pp) (oR sl) (oR na) (oi (Int32.ofNat iD)) (oi (Int32.ofNat iB)) s8B ou ou [(.ref tt), (.int (Int32.ofNat iD))])) rfl rfl (dd 188 rfl)
           refine ja st136 ?_
           refine ja (A := oW p e below T136 (jd m 421 (oR tt) (oR ns) (oR ww) (oR pp) (oR sl) (oR na) (oi (Int32.ofNat iD)) (oi (Int32.ofNat iB)) s8B ou ou [(.ref tt)])) (fun t k => by
            refine jM X136 hx hZ12 e136 fD_4 (g := (jd m 416 (oR tt) (oR ns) (oR ww) (oR pp) (oR sl) (oR na) (oi (Int32.ofNat iD)) (oi (Int32.ofNat iB)) s8B ou ou [(.ref b56), (.int (Int32.ofNat iD))])) rfl rfl (dd 189 rfl) _ ?_
            refine XS.icmpNo X136.here hx rfl (dd 190 rfl) rfl (tlt ((jU iD (by omega) nn (by omega)).1 hiD)).2.1 ?_
            show oW p e below T136 (jd m 420 (oR tt) (oR ns) (oR ww) (oR pp) (oR sl) (oR na) (oi (Int32.ofNat iD)) (oi (Int32.ofNat iB)) s8B ou ou []) _
            refine XS.aloadN X136.here hx rfl (dd 191 rfl) rfl rfl ?_
            exact k) ?_
           obtain ⟨T137, X137, e137, st137⟩ := getF X136 hx hZ12 hown12 (host := "") (Or.inl ow507) Via.refl e136 fD_12 (g := (jd m 421 (oR tt) (oR ns) (oR ww) (oR pp) (oR sl) (oR na) (oi (Int32.ofNat iD)) (oi (Int32.ofNat iB)) s8B ou ou [(.ref tt)])) rfl rfl (dd 192 rfl)
           refine ja st137 ?_
           refine ja (A := oW p e below T137 (jd m 427 (oR tt) (oR ns) (oR ww) (oR pp) (oR sl) (oR na) (oi (Int32.ofNat iD)) (oi (Int32.ofNat iB)) s8B ou ou [(.ref tt), (.ref na), (.ref b98)])) (fun t k => by
            refine XS.aload X137.here hx rfl (dd 193 rfl) rfl rfl ?_
            refine XS.aloadN X137.here hx rfl (dd 194 rfl) rfl rfl ?_
            exact k) ?_
           obtain ⟨T138, X138, e138, st138⟩ := getF X137 hx hZ12 hown12 (host := "") (Or.inl ow408) Via.refl e137 fD_6 (g := (jd m 427 (oR tt) (oR ns) (oR ww) (oR pp) (oR sl) (oR na) (oi (Int32.ofNat iD)) (oi (Int32.ofNat iB)) s8B ou ou [(.ref tt), (.ref na), (.ref b98)])) rfl rfl (dd 195 rfl)
           refine ja st138 ?_
           refine ja (A := oW p e below T138 (jd m 438 (oR tt) (oR ns) (oR ww) (oR pp) (oR sl) (oR na) (oi (Int32.ofNat iD)) (oi (Int32.ofNat iB)) s8B ou ou [(.int (((jak ((jG (jw (je kk + 1) ss nn) (je kk)).take (je kk)) ss iD).getD (ss.getD iD 0).toNatClampNeg 0) + (1 : Int32))), (.int (ss.getD iD 0)), (.ref na), (.int ((jak ((jG (jw (je kk + 1) ss nn) (je kk)).take (je kk)) ss iD).getD (ss.getD iD 0).toNatClampNeg 0)), (.ref b98)])) (fun t k => by
            refine XS.iload X138.here hx rfl (dd 196 rfl) rfl ?_
            refine jbz X138 hx hZ12 e138 fD_4 ⟨(jU iD (by omega) nn (by omega)).2.2.1, (jU iD (by omega) nn (by omega)).1 hiD⟩ (v := (.int (ss.getD iD 0))) (by rw [(jU iD (by omega) nn (by omega)).2.2.2, jbq]) (g := (jd m 432 (oR tt) (oR ns) (oR ww) (oR pp) (oR sl) (oR na) (oi (Int32.ofNat iD)) (oi (Int32.ofNat iB)) s8B ou ou [(.int (Int32.ofNat iD)), (.ref b56), (.ref na), (.ref b98)])) rfl rfl (dd 197 rfl) _ ?_
            show oW p e below T138 (jd m 433 (oR tt) (oR ns) (oR ww) (oR pp) (oR sl) (oR na) (oi (Int32.ofNat iD)) (oi (Int32.ofNat iB)) s8B ou ou [(.int (ss.getD iD 0)), (.ref na), (.ref b98)]) _
            refine XT.dup2 X138.here hx rfl (dd 198 rfl) rfl rfl rfl ?_
            refine jbz X138 hx hZ12 e138 fD_14 ⟨(jcf hk (hos iD hiD).1 (hos iD hiD).2).2.2.2.1, (hos iD hiD).2⟩ (v := (.int ((jak ((jG (jw (je kk + 1) ss nn) (je kk)).take (je kk)) ss iD).getD (ss.getD iD 0).toNatClampNeg 0))) (jbq _ _) (g := (jd m 434 (oR tt) (oR ns) (oR ww) (oR pp) (oR sl) (oR na) (oi (Int32.ofNat iD)) (oi (Int32.ofNat iB)) s8B ou ou [(.int (ss.getD iD 0)), (.ref na), (.int (ss.getD iD 0)), (.ref na), (.ref b98)])) rfl rfl (dd 199 rfl) _ ?_
            jvm_step X138.here [X138.here.top, hx, (dd 200 rfl), Value.category]
            refine XS.iconst X138.here hx rfl (dd 201 rfl) ?_
            refine XS.iadd X138.here hx rfl (dd 202 rfl) rfl ?_
            exact k) ?_
           obtain ⟨cl139, Ar139, q139, S139, N139, H139, G139⟩ := id (fD_14)
           have hi139 : ¬ ((ss.getD iD 0) < 0 ∨ cl139.slots.size ≤ ((ss.getD iD 0)).toNatClampNeg) := inb_of S139 ⟨(jcf hk (hos iD hiD).1 (hos iD hiD).2).2.2.2.1, (hos iD hiD).2⟩
           obtain ⟨T140, h140, X140, e140, W140, st140⟩ := stI X138 hx hZ12 e138 Ar139 (j := (ss.getD iD 0)) hi139 (g := (jd m 438 (oR tt) (oR ns) (oR ww) (oR pp) (oR sl) (oR na) (oi (Int32.ofNat iD)) (oi (Int32.ofNat iB)) s8B ou ou [(.int (((jak ((jG (jw (je kk + 1) ss nn) (je kk)).take (je kk)) ss iD).getD (ss.getD iD 0).toNatClampNeg 0) + (1 : Int32))), (.int (ss.getD iD 0)), (.ref na), (.int ((jak ((jG (jw (je kk + 1) ss nn) (je kk)).take (je kk)) ss iD).getD (ss.getD iD 0).toNatClampNeg 0)), (.ref b98)])) rfl rfl (dd 203 rfl)
           refine ja st140 ?_
           have V140 : Arv Z h140 na kna .int kk ((oM (jak ((jG (jw (je kk + 1) ss nn) (je kk)).take (je kk)) ss iD)).set (ss.getD iD 0).toNatClampNeg (.int (((jak ((jG (jw (je kk + 1) ss nn) (je kk)).take (je kk)) ss iD).getD (ss.getD iD 0).toNatClampNeg 0) + (1 : Int32)))) (.int 0) := Arv.set Ar139 q139 S139 N139 H139 G139 rfl W140 (ss.getD iD 0).toNatClampNeg rfl (by rw [jcI, jlh, List.length_take, jfB, jee, Nat.min_eq_left (Nat.le_succ _)]; exact (jcf hk (hos iD hiD).1 (hos iD hiD).2).2.2.2.2)
           have V140b : Arv Z h140 na kna .int kk (oM (jak ((jG (jw (je kk + 1) ss nn) (je kk)).take (je kk)) ss (iD + 1))) (.int 0) := by rw [← (show (oM (jak ((jG (jw (je kk + 1) ss nn) (je kk)).take (je kk)) ss iD)).set (ss.getD iD 0).toNatClampNeg (.int (((jak ((jG (jw (je kk + 1) ss nn) (je kk)).take (je kk)) ss iD).getD (ss.getD iD 0).toNatClampNeg 0) + (1 : Int32))) = oM (jak ((jG (jw (je kk + 1) ss nn) (je kk)).take (je kk)) ss (iD + 1)) from jcZ _ _ _)]; exact V140
           have nt_b56_na : b56 ≠ na := Nat.ne_of_lt (Nat.lt_of_lt_of_le ((fC_6.ext E98).other W100 (nt_b56_tt)).lt s_na)
           have nt_tt_na : tt ≠ na := Nat.ne_of_lt (Nat.lt_of_lt_of_le ((fC_0.ext E98).wr W100).lt s_na)
           have nt_b82_na : b82 ≠ na := Nat.ne_of_lt (Nat.lt_of_lt_of_le ((Vx96.ext E98).other W100 (nt_b82_tt)).lt s_na)
           have nt_b98_na : b98 ≠ na := Nat.ne_of_lt (Nat.lt_of_lt_of_le (V98.other W100 (nt_b98_tt)).lt s_na)
           have N140 := Fr.snoc X140 ND g_na
           have Z140 : n0 ≤ h140.size := Nat.le_trans ZD (Keep.of_wr W140).1
           refine ja (A := oW p e below T140 (jd m 441 (oR tt) (oR ns) (oR ww) (oR pp) (oR sl) (oR na) (oi (Int32.ofNat iD)) (oi (Int32.ofNat iB)) s8B ou ou [(.int (Int32.ofNat iD)), (.int ((jak ((jG (jw (je kk + 1) ss nn) (je kk)).take (je kk)) ss iD).getD (ss.getD iD 0).toNatClampNeg 0)), (.ref b98)])) (fun t k => by
            refine XS.iload X140.here hx rfl (dd 204 rfl) rfl ?_
            exact k) ?_
           obtain ⟨cl141, Ar141, q141, S141, N141, H141, G141⟩ := id ((fD_10.other W140 (nt_b98_na)))
           have hi141 : ¬ (((jak ((jG (jw (je kk + 1) ss nn) (je kk)).take (je kk)) ss iD).getD (ss.getD iD 0).toNatClampNeg 0) < 0 ∨ cl141.slots.size ≤ (((jak ((jG (jw (je kk + 1) ss nn) (je kk)).take (je kk)) ss iD).getD (ss.getD iD 0).toNatClampNeg 0)).toNatClampNeg) := inb_of S141 (hbd iD hiD)
           obtain ⟨T142, h142, X142, e142, W142, st142⟩ := stI X140 hx hZ12 e140 Ar141 (j := ((jak ((jG (jw (je kk + 1) ss nn) (je kk)).take (je kk)) ss iD).getD (ss.getD iD 0).toNatClampNeg 0)) hi141 (g := (jd m 441 (oR tt) (oR ns) (oR ww) (oR pp) (oR sl) (oR na) (oi (Int32.ofNat iD)) (oi (Int32.ofNat iB)) s8B ou ou [(.int (Int32.ofNat iD)), (.int ((jak ((jG (jw (je kk + 1) ss nn) (je kk)).take (je kk)) ss iD).getD (ss.getD iD 0).toNatClampNeg 0)), (.ref b98)])) rfl rfl (dd 205 rfl)
           refine ja st142 ?_
           have V142 : Arv Z h142 b98 k98 .int (Int32.ofNat nn) ((oM (jcB ((jG (jw (je kk + 1) ss nn) (je kk)).take (je kk)) ss nn iD)).set ((jak ((jG (jw (je kk + 1) ss nn) (je kk)).take (je kk)) ss iD).getD (ss.getD iD 0).toNatClampNeg 0).toNatClampNeg (.int (Int32.ofNat iD))) (.int 0) := Arv.set Ar141 q141 S141 N141 H141 G141 rfl W142 ((jak ((jG (jw (je kk + 1) ss nn) (je kk)).take (je kk)) ss iD).getD (ss.getD iD 0).toNatClampNeg 0).toNatClampNeg rfl (by rw [jcI, jli]; exact jlp hn3 (hbd iD hiD))
           have V142b : Arv Z h142 b98 k98 .int (Int32.ofNat nn) (oM (jcB ((jG (jw (je kk + 1) ss nn) (je kk)).take (je kk)) ss nn (iD + 1))) (.int 0) := by rw [← (show (oM (jcB ((jG (jw (je kk + 1) ss nn) (je kk)).take (je kk)) ss nn iD)).set ((jak ((jG (jw (je kk + 1) ss nn) (je kk)).take (je kk)) ss iD).getD (ss.getD iD 0).toNatClampNeg 0).toNatClampNeg (.int (Int32.ofNat iD)) = oM (jcB ((jG (jw (je kk + 1) ss nn) (je kk)).take (je kk)) ss nn (iD + 1)) from jcZ _ _ _)]; exact V142
           have nt_b56_b98 : b56 ≠ b98 := Nat.ne_of_lt (Nat.lt_of_lt_of_le fC_6.lt (Nat.le_of_eq g98.symm))
           have nt_b82_b98 : b82 ≠ b98 := Nat.ne_of_lt (Nat.lt_of_lt_of_le Vx96.lt (Nat.le_of_eq g98.symm))
           have N142 := Fr.snoc X142 N140 g_b98
           have Z142 : n0 ≤ h142.size := Nat.le_trans Z140 (Keep.of_wr W142).1
           refine ja (A := oW p e below T142 (jd m 410 (oR tt) (oR ns) (oR ww) (oR pp) (oR sl) (oR na) (oi ((Int32.ofNat iD) + (1 : Int32))) (oi (Int32.ofNat iB)) s8B ou ou [])) (fun t k => by
            refine XS.iinc X142.here hx rfl (dd 206 rfl) rfl (l' := #[(oR tt), (oR ns), (oR ww), (oR pp), (oR sl), (oR na), (oi ((Int32.ofNat iD) + (1 : Int32))), (oi (Int32.ofNat iB)), s8B, ou, ou]) rfl ?_
            refine XS.goto X142.here hx rfl (pc0 := 445) (pc' := 410) rfl (dd 207 rfl) (by decide) (by decide) ?_
            exact k) ?_
           rw [jda]
           have g143f := (fD_1.keep (Keep.of_wr W140)).keep (Keep.of_wr W142)
           have g144f := (fD_2.keep (Keep.of_wr W140) (allS ⟨_, fD_13, by decide⟩ all0)).keep (Keep.of_wr W142) (allS ⟨_, (fD_11.wr W140), by decide⟩ all0)
           have g145f := (fD_3.keep (Keep.of_wr W140)).keep (Keep.of_wr W142)
           have g146f := (fD_4.other W140 (nt_b56_na)).other W142 (nt_b56_b98)
           have g147f := (fD_6.other W140 (Or.inl nt_tt_na)).other W142 (Or.inl (Ne.symm nt_b98_tt))
           have g148f := (fD_7.other W140 (nt_b82_na)).other W142 (nt_b82_b98)
           have g149f := (fD_9.other W140 (Or.inl nt_tt_na)).other W142 (Or.inl (Ne.symm nt_b98_tt))
           have g150f := (fD_12.other W140 (Or.inl nt_tt_na)).other W142 (Or.inl (Ne.symm nt_b98_tt))
           exact ihD (iD + 1) _ _ _ (by omega) X142 e142 N142 Z142 ((fD_0.wr W140).wr W142) g143f g144f g145f g146f ((fD_5.wr W140).wr W142) g147f g148f ((fD_8.wr W140).wr W142) g149f V142b ((fD_11.wr W140).wr W142) g150f ((fD_13.wr W140).wr W142) (V140b.other W142 ((Ne.symm nt_b98_na)))
         exact lpD nn 0 _ _ _ (by omega) X107 rfl N107 Z107 (((fC_0.ext E98).wr W100).keep K107q) g108f g109f g110f g111f (((fC_7.ext E98).wr W100).keep K107q) g112f g113f (((fC_10.ext E98).wr W100).keep K107q) (g101f.keep K107q nin0) g114f ((Q98.wr W100).keep K107q) (f100_14.keep K107q nin0) p107_0 p107_1
        | succ nC ihC =>
         intro iC TC locsC hC rC XC eC NC ZC fC_0 fC_1 fC_2 fC_3 fC_4 fC_5 fC_6 fC_7 fC_8 fC_9 fC_10 fC_11
         have hiC : iC < je kk := by omega
         refine ja (A := oW p e below TC (jd m 342 (oR tt) (oR ns) (oR ww) (oR pp) (oR sl) (oi (Int32.ofNat iC)) (oi (Int32.ofNat nn)) (oi (Int32.ofNat iB)) s8B ou ou [(.ref tt), (.int (Int32.ofNat iC))])) (fun t k => by
          refine XS.iload XC.here hx rfl (dd 151 rfl) rfl ?_
          refine XS.aloadN XC.here hx rfl (dd 152 rfl) rfl rfl ?_
          exact k) ?_
         obtain ⟨T151, X151, e151, st151⟩ := getF XC hx hZ12 hown12 (host := "") (Or.inl ow250) Via.refl eC fC_4 (g := (jd m 342 (oR tt) (oR ns) (oR ww) (oR pp) (oR sl) (oi (Int32.ofNat iC)) (oi (Int32.ofNat nn)) (oi (Int32.ofNat iB)) s8B ou ou [(.ref tt), (.int (Int32.ofNat iC))])) rfl rfl (dd 153 rfl)
         refine ja st151 ?_
         obtain ⟨T152, L152, X152, e152, N152q, st152⟩ := jef (n0 := n0) hw X151 hx hZ12 hown12 fC_5 ZC e151 (g := (jd m 345 (oR tt) (oR ns) (oR ww) (oR pp) (oR sl) (oi (Int32.ofNat iC)) (oi (Int32.ofNat nn)) (oi (Int32.ofNat iB)) s8B ou ou [(.ref wl), (.int (Int32.ofNat iC))])) rfl (by rw [hml]; rfl) rfl (W := 1) (Nat.le_of_eq rfl) (dd 154 rfl) (by decide)
         refine ja st152 ?_
         have N152 := Fr.app NC N152q
         refine ja (A := oW p e below T152 (jd m 354 (oR tt) (oR ns) (oR ww) (oR pp) (oR sl) (oi (Int32.ofNat iC)) (oi (Int32.ofNat nn)) (oi (Int32.ofNat iB)) s8B ou ou [(.ref tt)])) (fun t k => by
          refine XS.icmpNo X152.here hx rfl (dd 155 rfl) rfl (tlt (jcC hk iC (by omega) hiC).2.2.2.2.2).2.1 ?_
          refine XS.aloadN X152.here hx rfl (dd 156 rfl) rfl rfl ?_
          exact k) ?_
         obtain ⟨T153, X153, e153, st153⟩ := getF X152 hx hZ12 hown12 (host := "") (Or.inl ow505) Via.refl e152 fC_11 (g := (jd m 354 (oR tt) (oR ns) (oR ww) (oR pp) (oR sl) (oi (Int32.ofNat iC)) (oi (Int32.ofNat nn)) (oi (Int32.ofNat iB)) s8B ou ou [(.ref tt)])) rfl rfl (dd 157 rfl)
         refine ja st153 ?_
         refine ja (A := oW p e below T153 (jd m 364 (oR tt) (oR ns) (oR ww) (oR pp) (oR sl) (oi (Int32.ofNat iC)) (oi (Int32.ofNat nn)) (oi (Int32.ofNat iB)) s8B ou ou [(.ref tt), (.int ((jG (jw (je kk + 1) ss nn) iC).getD (iC + 1) 0)), (.int ((Int32.ofNat iC) + (1 : Int32))), (.ref b82)])) (fun t k => by
          refine XS.iload X153.here hx rfl (dd 158 rfl) rfl ?_
          refine XS.iconst X153.here hx rfl (dd 159 rfl) ?_
          refine XS.iadd X153.here hx rfl (dd 160 rfl) rfl ?_
          show oW p e below T153 (jd m 361 (oR tt) (oR ns) (oR ww) (oR pp) (oR sl) (oi (Int32.ofNat iC)) (oi (Int32.ofNat nn)) (oi (Int32.ofNat iB)) s8B ou ou [(.int ((Int32.ofNat iC) + (1 : Int32))), (.ref b82)]) _
          refine XT.dup2 X153.here hx rfl (dd 161 rfl) rfl rfl rfl ?_
          refine jbz X153 hx hZ12 e153 fC_9 ⟨(jcC hk iC (by omega) hiC).1, (jcC hk iC (by omega) hiC).2.1⟩ (v := (.int ((jG (jw (je kk + 1) ss nn) iC).getD (iC + 1) 0))) (by rw [(jcC hk iC (by omega) hiC).2.2.1, jbq]) (g := (jd m 362 (oR tt) (oR ns) (oR ww) (oR pp) (oR sl) (oi (Int32.ofNat iC)) (oi (Int32.ofNat nn)) (oi (Int32.ofNat iB)) s8B ou ou [(.int ((Int32.ofNat iC) + (1 : Int32))), (.ref b82), (.int ((Int32.ofNat iC) + (1 : Int32))), (.ref b82)])) rfl rfl (dd 162 rfl) _ ?_
          refine XS.aloadN X153.here hx rfl (dd 163 rfl) rfl rfl ?_
          exact k) ?_
         obtain ⟨T154, X154, e154, st154⟩ := getF X153 hx hZ12 hown12 (host := "") (Or.inl ow505) Via.refl e153 fC_11 (g := (jd m 364 (oR tt) (oR ns) (oR ww) (oR pp) (oR sl) (oi (Int32.ofNat iC)) (oi (Int32.ofNat nn)) (oi (Int32.ofNat iB)) s8B ou ou [(.ref tt), (.int ((jG (jw (je kk + 1) ss nn) iC).getD (iC + 1) 0)), (.int ((Int32.ofNat iC) + (1 : Int32))), (.ref b82)])) rfl rfl (dd 164 rfl)
         refine ja st154 ?_
         refine ja (A := oW p e below T154 (jd m 371 (oR tt) (oR ns) (oR ww) (oR pp) (oR sl) (oi (Int32.ofNat iC)) (oi (Int32.ofNat nn)) (oi (Int32.ofNat iB)) s8B ou ou [(.int (((jG (jw (je kk + 1) ss nn) iC).getD (iC + 1) 0) + ((jG (jw (je kk + 1) ss nn) iC).getD iC 0))), (.int ((Int32.ofNat iC) + (1 : Int32))), (.ref b82)])) (fun t k => by
          refine XS.iload X154.here hx rfl (dd 165 rfl) rfl ?_
          refine jbz X154 hx hZ12 e154 fC_9 ⟨(jU iC (by omega) 0 (by decide)).2.2.1, (jcC hk iC (by omega) hiC).2.2.2.1⟩ (v := (.int ((jG (jw (je kk + 1) ss nn) iC).getD iC 0))) (by rw [(jU iC (by omega) 0 (by decide)).2.2.2, jbq]) (g := (jd m 369 (oR tt) (oR ns) (oR ww) (oR pp) (oR sl) (oi (Int32.ofNat iC)) (oi (Int32.ofNat nn)) (oi (Int32.ofNat iB)) s8B ou ou [(.int (Int32.ofNat iC)), (.ref b82), (.int ((jG (jw (je kk + 1) ss nn) iC).getD (iC + 1) 0)), (.int ((Int32.ofNat iC) + (1 : Int32))), (.ref b82)])) rfl rfl (dd 166 rfl) _ ?_
          show oW p e below T154 (jd m 370 (oR tt) (oR ns) (oR ww) (oR pp) (oR sl) (oi (Int32.ofNat iC)) (oi (Int32.ofNat nn)) (oi (Int32.ofNat iB)) s8B ou ou [(.int ((jG (jw (je kk + 1) ss nn) iC).getD iC 0)), (.int ((jG (jw (je kk + 1) ss nn) iC).getD (iC + 1) 0)), (.int ((Int32.ofNat iC) + (1 : Int32))), (.ref b82)]) _
          refine XS.iadd X154.here hx rfl (dd 167 rfl) rfl ?_
          exact k) ?_
         obtain ⟨cl155, Ar155, q155, S155, N155, H155, G155⟩ := id (fC_9)
         have hi155 : ¬ (((Int32.ofNat iC) + (1 : Int32)) < 0 ∨ cl155.slots.size ≤ (((Int32.ofNat iC) + (1 : Int32))).toNatClampNeg) := inb_of S155 ⟨(jcC hk iC (by omega) hiC).1, (jcC hk iC (by omega) hiC).2.1⟩
         obtain ⟨T156, h156, X156, e156, W156, st156⟩ := stI X154 hx hZ12 e154 Ar155 (j := ((Int32.ofNat iC) + (1 : Int32))) hi155 (g := (jd m 371 (oR tt) (oR ns) (oR ww) (oR pp) (oR sl) (oi (Int32.ofNat iC)) (oi (Int32.ofNat nn)) (oi (Int32.ofNat iB)) s8B ou ou [(.int (((jG (jw (je kk + 1) ss nn) iC).getD (iC + 1) 0) + ((jG (jw (je kk + 1) ss nn) iC).getD iC 0))), (.int ((Int32.ofNat iC) + (1 : Int32))), (.ref b82)])) rfl rfl (dd 168 rfl)
         refine ja st156 ?_
         have V156 : Arv Z h156 b82 k82 .int (kk + (1 : Int32)) ((oM (jG (jw (je kk + 1) ss nn) iC)).set (iC + 1) (.int (((jG (jw (je kk + 1) ss nn) iC).getD (iC + 1) 0) + ((jG (jw (je kk + 1) ss nn) iC).getD iC 0)))) (.int 0) := Arv.set Ar155 q155 S155 N155 H155 G155 rfl W156 (iC + 1) (jcC hk iC (by omega) hiC).2.2.1 (by rw [jcI, jfB, jee]; exact (jcC hk iC (by omega) hiC).2.2.2.2.1)
         have V156b : Arv Z h156 b82 k82 .int (kk + (1 : Int32)) (oM (jG (jw (je kk + 1) ss nn) (iC + 1))) (.int 0) := by rw [← (show (oM (jG (jw (je kk + 1) ss nn) iC)).set (iC + 1) (.int (((jG (jw (je kk + 1) ss nn) iC).getD (iC + 1) 0) + ((jG (jw (je kk + 1) ss nn) iC).getD iC 0))) = oM (jG (jw (je kk + 1) ss nn) (iC + 1)) from jcZ _ _ _)]; exact V156
         have nt_b56_b82 : b56 ≠ b82 := Nat.ne_of_lt (Nat.lt_of_lt_of_le Vx79.lt (Nat.le_of_eq g82.symm))
         have N156 := Fr.snoc X156 N152 g_b82
         have Z156 : n0 ≤ h156.size := Nat.le_trans ZC (Keep.of_wr W156).1
         refine ja (A := oW p e below T156 (jd m 339 (oR tt) (oR ns) (oR ww) (oR pp) (oR sl) (oi ((Int32.ofNat iC) + (1 : Int32))) (oi (Int32.ofNat nn)) (oi (Int32.ofNat iB)) s8B ou ou [])) (fun t k => by
          refine XS.iinc X156.here hx rfl (dd 169 rfl) rfl (l' := #[(oR tt), (oR ns), (oR ww), (oR pp), (oR sl), (oi ((Int32.ofNat iC) + (1 : Int32))), (oi (Int32.ofNat nn)), (oi (Int32.ofNat iB)), s8B, ou, ou]) rfl ?_
          refine XS.goto X156.here hx rfl (pc0 := 375) (pc' := 339) rfl (dd 170 rfl) (by decide) (by decide) ?_
          exact k) ?_
         rw [jda]
         have g157f := fC_2.keep (Keep.of_wr W156) (allS ⟨_, fC_10, by decide⟩ all0)
         have g158f := fC_4.other W156 (Or.inl (Ne.symm nt_b82_tt))
         have g159f := fC_5.keep (Keep.of_wr W156) (allS ⟨_, fC_10, by decide⟩ all0)
         have g160f := fC_8.other W156 (Or.inl (Ne.symm nt_b82_tt))
         have g161f := fC_11.other W156 (Or.inl (Ne.symm nt_b82_tt))
         exact ihC (iC + 1) _ _ _ (by omega) X156 e156 N156 Z156 (fC_0.wr W156) (fC_1.keep (Keep.of_wr W156)) g157f (fC_3.keep (Keep.of_wr W156)) g158f g159f (fC_6.other W156 (nt_b56_b82)) (fC_7.wr W156) g160f V156b (fC_10.wr W156) g161f
       exact lpC (je kk) 0 _ _ _ (by omega) XB eB NB ZB fB_0 fB_1 fB_2 fB_3 fB_4 fB_5 fB_6 fB_7 fB_8 Vx93 fB_10 fB_11
      | succ nB ihB =>
       intro iB s8B TB locsB hB rB XB eB NB ZB sdB fB_0 fB_1 fB_2 fB_3 fB_4 fB_5 fB_6 fB_7 fB_8 fB_9 fB_10 fB_11
       have hiB : iB < nn := by omega
       refine ja (A := oW p e below TB (jd m 318 (oR tt) (oR ns) (oR ww) (oR pp) (oR sl) (oR b56) (oi (Int32.ofNat nn)) (oi (Int32.ofNat iB)) (oi (ss.getD iB 0)) ou ou [(.ref tt)])) (fun t k => by
        refine XS.iload XB.here hx rfl (dd 130 rfl) rfl ?_
        refine XS.iload XB.here hx rfl (dd 131 rfl) rfl ?_
        show oW p e below TB (jd m 307 (oR tt) (oR ns) (oR ww) (oR pp) (oR sl) (oR b56) (oi (Int32.ofNat nn)) (oi (Int32.ofNat iB)) s8B ou ou [(.int (Int32.ofNat nn)), (.int (Int32.ofNat iB))]) _
        refine XS.icmpNo XB.here hx rfl (dd 132 rfl) rfl (tlt ((jU iB (by omega) nn (by omega)).1 hiB)).2.1 ?_
        refine XS.aload XB.here hx rfl (dd 133 rfl) rfl rfl ?_
        refine XS.iload XB.here hx rfl (dd 134 rfl) rfl ?_
        refine jbz XB hx hZ12 eB fB_6 ⟨(jU iB (by omega) nn (by omega)).2.2.1, (jU iB (by omega) nn (by omega)).1 hiB⟩ (v := (.int (ss.getD iB 0))) (by rw [(jU iB (by omega) nn (by omega)).2.2.2, jbq]) (g := (jd m 314 (oR tt) (oR ns) (oR ww) (oR pp) (oR sl) (oR b56) (oi (Int32.ofNat nn)) (oi (Int32.ofNat iB)) s8B ou ou [(.int (Int32.ofNat iB)), (.ref b56)])) rfl rfl (dd 135 rfl) _ ?_
        refine XS.istore XB.here hx rfl (dd 136 rfl) rfl (l' := #[(oR tt), (oR ns), (oR ww), (oR pp), (oR sl), (oR b56), (oi (Int32.ofNat nn)), (oi (Int32.ofNat iB)), (oi (ss.getD iB 0)), ou, ou]) (XS.store1 rfl (sdB) (rfl)) ?_
        show oW p e below TB (jd m 317 (oR tt) (oR ns) (oR ww) (oR pp) (oR sl) (oR b56) (oi (Int32.ofNat nn)) (oi (Int32.ofNat iB)) (oi (ss.getD iB 0)) ou ou []) _
        refine XS.aloadN XB.here hx rfl (dd 137 rfl) rfl rfl ?_
        exact k) ?_
       obtain ⟨T162, X162, e162, st162⟩ := getF XB hx hZ12 hown12 (host := "") (Or.inl ow505) Via.refl eB fB_11 (g := (jd m 318 (oR tt) (oR ns) (oR ww) (oR pp) (oR sl) (oR b56) (oi (Int32.ofNat nn)) (oi (Int32.ofNat iB)) (oi (ss.getD iB 0)) ou ou [(.ref tt)])) rfl rfl (dd 138 rfl)
       refine ja st162 ?_
       refine ja (A := oW p e below T162 (jd m 329 (oR tt) (oR ns) (oR ww) (oR pp) (oR sl) (oR b56) (oi (Int32.ofNat nn)) (oi (Int32.ofNat iB)) (oi (ss.getD iB 0)) ou ou [(.int (((jw (je kk + 1) ss iB).getD ((ss.getD iB 0) + (1 : Int32)).toNatClampNeg 0) + (1 : Int32))), (.int ((ss.getD iB 0) + (1 : Int32))), (.ref b82)])) (fun t k => by
        refine XS.iload X162.here hx rfl (dd 139 rfl) rfl ?_
        refine XS.iconst X162.here hx rfl (dd 140 rfl) ?_
        refine XS.iadd X162.here hx rfl (dd 141 rfl) rfl ?_
        refine XT.dup2 X162.here hx rfl (dd 142 rfl) rfl rfl rfl ?_
        show oW p e below T162 (jd m 326 (oR tt) (oR ns) (oR ww) (oR pp) (oR sl) (oR b56) (oi (Int32.ofNat nn)) (oi (Int32.ofNat iB)) (oi (ss.getD iB 0)) ou ou [(.int ((ss.getD iB 0) + (1 : Int32))), (.ref b82), (.int ((ss.getD iB 0) + (1 : Int32))), (.ref b82)]) _
        refine jbz X162 hx hZ12 e162 fB_9 ⟨(jcf hk (hos iB hiB).1 (hos iB hiB).2).1, (jcf hk (hos iB hiB).1 (hos iB hiB).2).2.1⟩ (v := (.int ((jw (je kk + 1) ss iB).getD ((ss.getD iB 0) + (1 : Int32)).toNatClampNeg 0))) (jbq _ _) (g := (jd m 326 (oR tt) (oR ns) (oR ww) (oR pp) (oR sl) (oR b56) (oi (Int32.ofNat nn)) (oi (Int32.ofNat iB)) (oi (ss.getD iB 0)) ou ou [(.int ((ss.getD iB 0) + (1 : Int32))), (.ref b82), (.int ((ss.getD iB 0) + (1 : Int32))), (.ref b82)])) rfl rfl (dd 143 rfl) _ ?_
        refine XS.iconst X162.here hx rfl (dd 144 rfl) ?_
        refine XS.iadd X162.here hx rfl (dd 145 rfl) rfl ?_
        exact k) ?_
       obtain ⟨cl163, Ar163, q163, S163, N163, H163, G163⟩ := id (fB_9)
       have hi163 : ¬ (((ss.getD iB 0) + (1 : Int32)) < 0 ∨ cl163.slots.size ≤ (((ss.getD iB 0) + (1 : Int32))).toNatClampNeg) := inb_of S163 ⟨(jcf hk (hos iB hiB).1 (hos iB hiB).2).1, (jcf hk (hos iB hiB).1 (hos iB hiB).2).2.1⟩
       obtain ⟨T164, h164, X164, e164, W164, st164⟩ := stI X162 hx hZ12 e162 Ar163 (j := ((ss.getD iB 0) + (1 : Int32))) hi163 (g := (jd m 329 (oR tt) (oR ns) (oR ww) (oR pp) (oR sl) (oR b56) (oi (Int32.ofNat nn)) (oi (Int32.ofNat iB)) (oi (ss.getD iB 0)) ou ou [(.int (((jw (je kk + 1) ss iB).getD ((ss.getD iB 0) + (1 : Int32)).toNatClampNeg 0) + (1 : Int32))), (.int ((ss.getD iB 0) + (1 : Int32))), (.ref b82)])) rfl rfl (dd 146 rfl)
       refine ja st164 ?_
       have V164 : Arv Z h164 b82 k82 .int (kk + (1 : Int32)) ((oM (jw (je kk + 1) ss iB)).set ((ss.getD iB 0) + (1 : Int32)).toNatClampNeg (.int (((jw (je kk + 1) ss iB).getD ((ss.getD iB 0) + (1 : Int32)).toNatClampNeg 0) + (1 : Int32)))) (.int 0) := Arv.set Ar163 q163 S163 N163 H163 G163 rfl W164 ((ss.getD iB 0) + (1 : Int32)).toNatClampNeg rfl (by rw [jcI, jee]; exact (jcf hk (hos iB hiB).1 (hos iB hiB).2).2.2.1)
       have V164b : Arv Z h164 b82 k82 .int (kk + (1 : Int32)) (oM (jw (je kk + 1) ss (iB + 1))) (.int 0) := by rw [← (show (oM (jw (je kk + 1) ss iB)).set ((ss.getD iB 0) + (1 : Int32)).toNatClampNeg (.int (((jw (je kk + 1) ss iB).getD ((ss.getD iB 0) + (1 : Int32)).toNatClampNeg 0) + (1 : Int32))) = oM (jw (je kk + 1) ss (iB + 1)) from jcZ _ _ _)]; exact V164
       have nt_b56_b82 : b56 ≠ b82 := Nat.ne_of_lt (Nat.lt_of_lt_of_le Vx79.lt (Nat.le_of_eq g82.symm))
       have N164 := Fr.snoc X164 NB g_b82
       have Z164 : n0 ≤ h164.size := Nat.le_trans ZB (Keep.of_wr W164).1
       refine ja (A := oW p e below T164 (jd m 303 (oR tt) (oR ns) (oR ww) (oR pp) (oR sl) (oR b56) (oi (Int32.ofNat nn)) (oi ((Int32.ofNat iB) + (1 : Int32))) (oi (ss.getD iB 0)) ou ou [])) (fun t k => by
        refine XS.iinc X164.here hx rfl (dd 147 rfl) rfl (l' := #[(oR tt), (oR ns), (oR ww), (oR pp), (oR sl), (oR b56), (oi (Int32.ofNat nn)), (oi ((Int32.ofNat iB) + (1 : Int32))), (oi (ss.getD iB 0)), ou, ou]) rfl ?_
        refine XS.goto X164.here hx rfl (pc0 := 333) (pc' := 303) rfl (dd 148 rfl) (by decide) (by decide) ?_
        exact k) ?_
       rw [jda]
       have g165f := fB_2.keep (Keep.of_wr W164) (allS ⟨_, fB_10, by decide⟩ all0)
       have g166f := fB_4.other W164 (Or.inl (Ne.symm nt_b82_tt))
       have g167f := fB_5.keep (Keep.of_wr W164) (allS ⟨_, fB_10, by decide⟩ all0)
       have g168f := fB_8.other W164 (Or.inl (Ne.symm nt_b82_tt))
       have g169f := fB_11.other W164 (Or.inl (Ne.symm nt_b82_tt))
       exact ihB (iB + 1) ((oi (ss.getD iB 0))) _ _ _ (by omega) X164 e164 N164 Z164 (Or.inr ⟨_, rfl, rfl⟩) (fB_0.wr W164) (fB_1.keep (Keep.of_wr W164)) g165f (fB_3.keep (Keep.of_wr W164)) g166f g167f (fB_6.other W164 (nt_b56_b82)) (fB_7.wr W164) g168f V164b (fB_10.wr W164) g169f
     exact lpB nn 0 ou _ _ _ (by omega) X86 e86 N84 Z84 (Or.inl rfl) ((fA_0.ext E82).wr W84) ((fA_1.ext E82).keep (Keep.of_wr W84)) g87f ((fA_7.ext E82).keep (Keep.of_wr W84)) g88f g89f ((Vx79.ext E82).other W84 (nt_b56_tt)) ((fA_13.ext E82).wr W84) g85f (V82.other W84 (nt_b82_tt)) (Q82.wr W84) f84_11
    | succ nA ihA =>
     intro iA s6A TA locsA hA rA XA eA NA ZA sdA fA_0 fA_1 fA_2 fA_3 fA_4 fA_5 fA_6 fA_7 fA_8 fA_9 fA_10 fA_11 fA_12 fA_13 fA_14 fA_15 fA_16 fA_17
     have hiA : iA < nn := by omega
     refine ja (A := oW p e below TA (jd m 155 (oR tt) (oR ns) (oR ww) (oR pp) (oR sl) (oi (Int32.ofNat iA)) s6A ou ou ou ou [(.ref pp), (.int (Int32.ofNat iA))])) (fun t k => by
      refine XS.iload XA.here hx rfl (dd 61 rfl) rfl ?_
      refine XS.aloadN XA.here hx rfl (dd 62 rfl) rfl rfl ?_
      exact k) ?_
     obtain ⟨_, T170, L170, X170, hQ170, st170⟩ := jaI XA hx hZ12 hown12 ow398 ow399 ow401 ow402 (mvT hZ12 ow400) ow403 ow404 ow405 ow406 ow3 (jcu l Z a0 hw [] pp (Int32.ofNat nn) hA n0 ZA fA_2.2.1) eA fA_2.1 (by decide) (g := (jd m 155 (oR tt) (oR ns) (oR ww) (oR pp) (oR sl) (oi (Int32.ofNat iA)) s6A ou ou ou ou [(.ref pp), (.int (Int32.ofNat iA))])) rfl (by rw [hml]; rfl) (rest := [(.int (Int32.ofNat iA))]) rfl (lenOf jag rfl) rfl (W := 1) (Nat.le_of_eq rfl) (dd 63 rfl) (by decide)
     obtain ⟨rfl, N170q, eh170⟩ := hQ170
     have N170 := Fr.app NA N170q
     refine ja st170 ?_
     refine ja (A := oW p e below T170 (jd m 163 (oR tt) (oR ns) (oR ww) (oR pp) (oR sl) (oi (Int32.ofNat iA)) s6A ou ou ou ou [])) (fun t k => by
      refine XS.icmpNo X170.here hx rfl (dd 64 rfl) rfl (tlt ((jU iA (by omega) nn (by omega)).1 hiA)).2.1 ?_
      exact k) ?_
     obtain ⟨Epe, kpe, evs, Vpe, wp, sa, da, hev, Ewp, Fwa, Fwb, HSa, HSd⟩ := (fA_2.2.2.2.1).at hiA
     refine ja (A := oW p e below T170 (jd m 166 (oR tt) (oR ns) (oR ww) (oR pp) (oR sl) (oi (Int32.ofNat iA)) s6A ou ou ou ou [(.int (Int32.ofNat iA)), (.ref pp)])) (fun t k => by
      refine XS.aloadN X170.here hx rfl (dd 65 rfl) rfl rfl ?_
      refine XS.iload X170.here hx rfl (dd 66 rfl) rfl ?_
      exact k) ?_
     obtain ⟨_, T171, L171, X171, hQ171, st171⟩ := jaI X170 hx hZ12 hown12 ow412 ow301 ow413 ow414 (mvT hZ12 ow302) ow415 ow416 ow405 ow417 ow3 (jha l Z a0 hw [] pp (Int32.ofNat iA) pea kpe evs wp (Int32.ofNat nn) hA n0 ZA fA_2.1 fA_2.2.2.1 Vpe ⟨(jU iA (by omega) nn (by omega)).2.2.1, jlm _ (by omega)⟩ (by rw [(jU iA (by omega) nn (by omega)).2.2.2]; exact hev) fA_2.2.1 ⟨(jU iA (by omega) nn (by omega)).2.2.1, (jU iA (by omega) nn (by omega)).1 hiA⟩) eh170 fA_2.1 (by decide) (g := (jd m 166 (oR tt) (oR ns) (oR ww) (oR pp) (oR sl) (oi (Int32.ofNat iA)) s6A ou ou ou ou [(.int (Int32.ofNat iA)), (.ref pp)])) rfl (by rw [hml]; rfl) (rest := []) rfl (lenOf jT rfl) rfl (W := 0) (Nat.le_of_eq rfl) (dd 67 rfl) (by decide)
     obtain ⟨rfl, N171q, eh171⟩ := hQ171
     have N171 := Fr.app N170 N171q
     refine ja st171 ?_
     obtain ⟨T172, X172, e172, st172⟩ := castY X171 hx hZ12 hown12 ow430 eh171 (Ins.self Ewp) (g := (jd m 171 (oR tt) (oR ns) (oR ww) (oR pp) (oR sl) (oi (Int32.ofNat iA)) s6A ou ou ou ou [(.ref wp)])) rfl rfl (dd 68 rfl)
     refine ja st172 ?_
     refine ja (A := oW p e below T172 (jd m 177 (oR tt) (oR ns) (oR ww) (oR pp) (oR sl) (oi (Int32.ofNat iA)) (oR wp) ou ou ou ou [(.ref tt)])) (fun t k => by
      refine XS.astore X172.here hx rfl (dd 69 rfl) rfl rfl (l' := #[(oR tt), (oR ns), (oR ww), (oR pp), (oR sl), (oi (Int32.ofNat iA)), (oR wp), ou, ou, ou, ou]) (XS.store1 rfl (sdA) (rfl)) ?_
      refine XS.aloadN X172.here hx rfl (dd 70 rfl) rfl rfl ?_
      exact k) ?_
     obtain ⟨T173, X173, e173, st173⟩ := getF X172 hx hZ12 hown12 (host := "") (Or.inl ow408) Via.refl e172 fA_14 (g := (jd m 177 (oR tt) (oR ns) (oR ww) (oR pp) (oR sl) (oi (Int32.ofNat iA)) (oR wp) ou ou ou ou [(.ref tt)])) rfl rfl (dd 71 rfl)
     refine ja st173 ?_
     refine ja (A := oW p e below T173 (jd m 185 (oR tt) (oR ns) (oR ww) (oR pp) (oR sl) (oi (Int32.ofNat iA)) (oR wp) ou ou ou ou [(.ref wp), (.ref tt), (.int (Int32.ofNat iA)), (.ref b56)])) (fun t k => by
      refine XS.iload X173.here hx rfl (dd 72 rfl) rfl ?_
      refine XS.aloadN X173.here hx rfl (dd 73 rfl) rfl rfl ?_
      refine XS.aload X173.here hx rfl (dd 74 rfl) rfl rfl ?_
      exact k) ?_
     obtain ⟨_, T174, L174, X174, hQ174, st174⟩ := jax X173 hx hZ12 hown12 ow432 ow433 ow435 ow434 ow436 ow88 (jhN l Z a0 hw [] wp sa hA n0 ZA Fwa) e173 (notFace_of_selects (args := #[]) (mvT hZ12 ow435)) Ewp (by decide) (g := (jd m 185 (oR tt) (oR ns) (oR ww) (oR pp) (oR sl) (oi (Int32.ofNat iA)) (oR wp) ou ou ou ou [(.ref wp), (.ref tt), (.int (Int32.ofNat iA)), (.ref b56)])) rfl (by rw [hml]; rfl) (rest := [(.ref tt), (.int (Int32.ofNat iA)), (.ref b56)]) rfl (lenOf jav rfl) rfl (W := 3) (Nat.le_of_eq rfl) (dd 75 rfl) (by decide)
     obtain ⟨rfl, N174q, eh174⟩ := hQ174
     have N174 := Fr.app N171 N174q
     refine ja st174 ?_
     obtain ⟨_, T175, L175, X175, hQ175, st175⟩ := jax X174 hx hZ12 hown12 ow437 ow438 ow440 ow439 ow441 ow113 (jdp l Z a0 hw [] tt sa cz kk (ss.getD iA 0) b2 ca hA n0 ZA fA_2.2.2.2.2.2.2.2.2.1 hcz fA_0 fA_3 fA_10 HSa (hos iA hiA).1 (hos iA hiA).2 fA_2.2.2.2.2.2.2.2.1) eh174 (notFace_of_selects (args := #[]) (mvT hZ12 ow440)) fA_0 (by decide) (g := (jd m 188 (oR tt) (oR ns) (oR ww) (oR pp) (oR sl) (oi (Int32.ofNat iA)) (oR wp) ou ou ou ou [(.ref sa), (.ref tt), (.int (Int32.ofNat iA)), (.ref b56)])) rfl (by rw [hml]; rfl) (rest := [(.int (Int32.ofNat iA)), (.ref b56)]) rfl (lenOf jaq rfl) rfl (W := 2) (Nat.le_of_eq rfl) (dd 76 rfl) (by decide)
     obtain ⟨rfl, N175q, K175q, p175_0, p175_1⟩ := hQ175
     have N175 := Fr.app N174 N175q
     have nt_tt_sa : tt ≠ sa := (Exa.ne fA_0 HSa.2.1 (by decide))
     have nt_b56_sa : b56 ≠ sa := (Exa.ne fA_13 HSa.2.1 (by decide))
     have nt_b61_sa : b61 ≠ sa := (Exa.ne fA_16 HSa.2.1 (by decide))
     have nt_pea_sa : pea ≠ sa := (Exa.ne Epe HSa.2.1 (by decide))
     have nt_wp_sa : wp ≠ sa := (Exa.ne Ewp HSa.2.1 (by decide))
     have Z175 : n0 ≤ T175.heap.size := Nat.le_trans ZA K175q.1
     refine ja st175 ?_
     obtain ⟨cl176, Ar176, q176, S176, N176, H176, G176⟩ := id ((fA_12.keep K175q (ninS nt_b56_sa nin0)))
     have hi176 : ¬ ((Int32.ofNat iA) < 0 ∨ cl176.slots.size ≤ ((Int32.ofNat iA)).toNatClampNeg) := inb_of S176 ⟨(jU iA (by omega) nn (by omega)).2.2.1, (jU iA (by omega) nn (by omega)).1 hiA⟩
     obtain ⟨T177, h177, X177, e177, W177, st177⟩ := stI X175 hx hZ12 rfl Ar176 (j := (Int32.ofNat iA)) hi176 (g := (jd m 191 (oR tt) (oR ns) (oR ww) (oR pp) (oR sl) (oi (Int32.ofNat iA)) (oR wp) ou ou ou ou [(.int (ss.getD iA 0)), (.int (Int32.ofNat iA)), (.ref b56)])) rfl rfl (dd 77 rfl)
     refine ja st177 ?_
     have V177 : Arv Z h177 b56 k56 .int (Int32.ofNat nn) ((oM (jbf ss nn iA)).set iA (.int (ss.getD iA 0))) (.int 0) := Arv.set Ar176 q176 S176 N176 H176 G176 rfl W177 iA (jU iA (by omega) nn (by omega)).2.2.2 (by rw [jcI, jfA]; exact hiA)
     have V177b : Arv Z h177 b56 k56 .int (Int32.ofNat nn) (oM (jbf ss nn (iA + 1))) (.int 0) := by rw [← (show (oM (jbf ss nn iA)).set iA (.int (ss.getD iA 0)) = oM (jbf ss nn (iA + 1)) from jcZ _ _ _)]; exact V177
     have nt_b61_b56 : b61 ≠ b56 := Ne.symm (Nat.ne_of_lt (Nat.lt_of_lt_of_le (V56.other W58 (nt_b56_tt)).lt (Nat.le_of_eq g61.symm)))
     have nt_pea_b56 : pea ≠ b56 := (Exa.ne (Epe.keep K175q) (fA_13.keep K175q) (by decide))
     have nt_wp_b56 : wp ≠ b56 := (Exa.ne (Ewp.keep K175q) (fA_13.keep K175q) (by decide))
     have N177 := Fr.snoc X177 N175 g_b56
     have Z177 : n0 ≤ h177.size := Nat.le_trans Z175 (Keep.of_wr W177).1
     have g178f := (fA_17.keep K175q (ninS nt_tt_sa nin0)).other W177 (Or.inl (Ne.symm nt_b56_tt))
     refine ja (A := oW p e below T177 (jd m 193 (oR tt) (oR ns) (oR ww) (oR pp) (oR sl) (oi (Int32.ofNat iA)) (oR wp) ou ou ou ou [(.ref tt)])) (fun t k => by
      refine XS.aloadN X177.here hx rfl (dd 78 rfl) rfl rfl ?_
      exact k) ?_
     obtain ⟨T179, X179, e179, st179⟩ := getF X177 hx hZ12 hown12 (host := "") (Or.inl ow410) Via.refl e177 g178f (g := (jd m 193 (oR tt) (oR ns) (oR ww) (oR pp) (oR sl) (oi (Int32.ofNat iA)) (oR wp) ou ou ou ou [(.ref tt)])) rfl rfl (dd 79 rfl)
     refine ja st179 ?_
     refine ja (A := oW p e below T179 (jd m 201 (oR tt) (oR ns) (oR ww) (oR pp) (oR sl) (oi (Int32.ofNat iA)) (oR wp) ou ou ou ou [(.ref wp), (.ref tt), (.int (Int32.ofNat iA)), (.ref b61)])) (fun t k => by
      refine XS.iload X179.here hx rfl (dd 80 rfl) rfl ?_
      refine XS.aloadN X179.here hx rfl (dd 81 rfl) rfl rfl ?_
      refine XS.aload X179.here hx rfl (dd 82 rfl) rfl rfl ?_
      exact k) ?_
     have g181f := (Fwb.keep K175q (ninS nt_wp_sa nin0)).other W177 (Or.inl nt_wp_b56)
     obtain ⟨_, T180, L180, X180, hQ180, st180⟩ := jax X179 hx hZ12 hown12 ow476 ow477 ow479 ow478 ow480 ow88 (jhO l Z a0 hw [] wp da h177 n0 Z177 g181f) e179 (notFace_of_selects (args := #[]) (mvT hZ12 ow479)) ((Ewp.keep K175q).wr W177) (by decide) (g := (jd m 201 (oR tt) (oR ns) (oR ww) (oR pp) (oR sl) (oi (Int32.ofNat iA)) (oR wp) ou ou ou ou [(.ref wp), (.ref tt), (.int (Int32.ofNat iA)), (.ref b61)])) rfl (by rw [hml]; rfl) (rest := [(.ref tt), (.int (Int32.ofNat iA)), (.ref b61)]) rfl (lenOf jav rfl) rfl (W := 3) (Nat.le_of_eq rfl) (dd 83 rfl) (by decide)
     obtain ⟨rfl, N180q, eh180⟩ := hQ180
     have N180 := Fr.app N177 N180q
     refine ja st180 ?_
     have g183f := (fA_3.keep K175q (ninS nt_tt_sa nin0)).other W177 (Or.inl (Ne.symm nt_b56_tt))
     have g184f := (fA_10.keepS K175q HSa p175_0).keep (Keep.of_wr W177) (allS ⟨_, (fA_13.keep K175q), by decide⟩ all0)
     have g185f := (fA_2.keepS K175q HSa p175_0).keep (Keep.of_wr W177) (allS ⟨_, (fA_13.keep K175q), by decide⟩ all0)
     have g186f := (HSd.keepS K175q HSa p175_0).keep (Keep.of_wr W177) (allS ⟨_, (fA_13.keep K175q), by decide⟩ all0)
     obtain ⟨_, T182, L182, X182, hQ182, st182⟩ := jax X180 hx hZ12 hown12 ow437 ow438 ow440 ow439 ow441 ow113 (jdp l Z a0 hw [] tt da cz kk (ds.getD iA 0) b2 ca h177 n0 Z177 g185f.2.2.2.2.2.2.2.2.1 hcz ((fA_0.keep K175q).wr W177) g183f g184f g186f (hod iA hiA).1 (hod iA hiA).2 g185f.2.2.2.2.2.2.2.1) eh180 (notFace_of_selects (args := #[]) (mvT hZ12 ow440)) ((fA_0.keep K175q).wr W177) (by decide) (g := (jd m 204 (oR tt) (oR ns) (oR ww) (oR pp) (oR sl) (oi (Int32.ofNat iA)) (oR wp) ou ou ou ou [(.ref da), (.ref tt), (.int (Int32.ofNat iA)), (.ref b61)])) rfl (by rw [hml]; rfl) (rest := [(.int (Int32.ofNat iA)), (.ref b61)]) rfl (lenOf jaq rfl) rfl (W := 2) (Nat.le_of_eq rfl) (dd 84 rfl) (by decide)
     obtain ⟨rfl, N182q, K182q, p182_0, p182_1⟩ := hQ182
     have N182 := Fr.app N180 N182q
     have nt_tt_da : tt ≠ da := (Exa.ne ((fA_0.keep K175q).wr W177) ((HSd.2.1.keep K175q).wr W177) (by decide))
     have f182_8 := ((fA_8.keep K175q (allS ⟨_, HSa.2.1, by decide⟩ all0)).keep (Keep.of_wr W177) (allS ⟨_, (fA_13.keep K175q), by decide⟩ all0)).keep K182q (allS ⟨_, ((HSd.2.1.keep K175q).wr W177), by decide⟩ all0)
     have f182_11 := ((fA_11.keep K175q (allS ⟨_, HSa.2.1, by decide⟩ all0)).keep (Keep.of_wr W177) (allS ⟨_, (fA_13.keep K175q), by decide⟩ all0)).keep K182q (allS ⟨_, ((HSd.2.1.keep K175q).wr W177), by decide⟩ all0)
     have nt_b56_da : b56 ≠ da := (Exa.ne ((fA_13.keep K175q).wr W177) ((HSd.2.1.keep K175q).wr W177) (by decide))
     have nt_b61_da : b61 ≠ da := (Exa.ne ((fA_16.keep K175q).wr W177) ((HSd.2.1.keep K175q).wr W177) (by decide))
     have nt_pea_da : pea ≠ da := (Exa.ne ((Epe.keep K175q).wr W177) ((HSd.2.1.keep K175q).wr W177) (by decide))
     have nt_wp_da : wp ≠ da := (Exa.ne ((Ewp.keep K175q).wr W177) ((HSd.2.1.keep K175q).wr W177) (by decide))
     have Z182 : n0 ≤ T182.heap.size := Nat.le_trans Z177 K182q.1
     refine ja st182 ?_
     have g187f := ((fA_15.keep K175q (ninS nt_b61_sa nin0)).other W177 (nt_b61_b56)).keep K182q (ninS nt_b61_da nin0)
     obtain ⟨cl188, Ar188, q188, S188, N188, H188, G188⟩ := id (g187f)
     have hi188 : ¬ ((Int32.ofNat iA) < 0 ∨ cl188.slots.size ≤ ((Int32.ofNat iA)).toNatClampNeg) := inb_of S188 ⟨(jU iA (by omega) nn (by omega)).2.2.1, (jU iA (by omega) nn (by omega)).1 hiA⟩
     obtain ⟨T189, h189, X189, e189, W189, st189⟩ := stI X182 hx hZ12 rfl Ar188 (j := (Int32.ofNat iA)) hi188 (g := (jd m 207 (oR tt) (oR ns) (oR ww) (oR pp) (oR sl) (oi (Int32.ofNat iA)) (oR wp) ou ou ou ou [(.int (ds.getD iA 0)), (.int (Int32.ofNat iA)), (.ref b61)])) rfl rfl (dd 85 rfl)
     refine ja st189 ?_
     have V189 : Arv Z h189 b61 k61 .int (Int32.ofNat nn) ((oM (jbf ds nn iA)).set iA (.int (ds.getD iA 0))) (.int 0) := Arv.set Ar188 q188 S188 N188 H188 G188 rfl W189 iA (jU iA (by omega) nn (by omega)).2.2.2 (by rw [jcI, jfA]; exact hiA)
     have V189b : Arv Z h189 b61 k61 .int (Int32.ofNat nn) (oM (jbf ds nn (iA + 1))) (.int 0) := by rw [← (show (oM (jbf ds nn iA)).set iA (.int (ds.getD iA 0)) = oM (jbf ds nn (iA + 1)) from jcZ _ _ _)]; exact V189
     have nt_pea_b61 : pea ≠ b61 := (Exa.ne (((Epe.keep K175q).wr W177).keep K182q) (((fA_16.keep K175q).wr W177).keep K182q) (by decide))
     have nt_wp_b61 : wp ≠ b61 := (Exa.ne (((Ewp.keep K175q).wr W177).keep K182q) (((fA_16.keep K175q).wr W177).keep K182q) (by decide))
     have f189_25 := ((p175_0.keep (Keep.of_wr W177) (allS ⟨_, (fA_13.keep K175q), by decide⟩ all0)).keepS K182q g186f p182_0).keep (Keep.of_wr W189) (allS ⟨_, (((fA_16.keep K175q).wr W177).keep K182q), by decide⟩ all0)
     have N189 := Fr.snoc X189 N182 g_b61
     have Z189 : n0 ≤ h189.size := Nat.le_trans Z182 (Keep.of_wr W189).1
     have g190f := (((fA_14.keep K175q (ninS nt_tt_sa nin0)).other W177 (Or.inl (Ne.symm nt_b56_tt))).keep K182q (ninS nt_tt_da nin0)).other W189 (Or.inl (Ne.symm nt_b61_tt))
     refine ja (A := oW p e below T189 (jd m 209 (oR tt) (oR ns) (oR ww) (oR pp) (oR sl) (oi (Int32.ofNat iA)) (oR wp) ou ou ou ou [(.ref tt)])) (fun t k => by
      refine XS.aloadN X189.here hx rfl (dd 86 rfl) rfl rfl ?_
      exact k) ?_
     obtain ⟨T191, X191, e191, st191⟩ := getF X189 hx hZ12 hown12 (host := "") (Or.inl ow408) Via.refl e189 g190f (g := (jd m 209 (oR tt) (oR ns) (oR ww) (oR pp) (oR sl) (oi (Int32.ofNat iA)) (oR wp) ou ou ou ou [(.ref tt)])) rfl rfl (dd 87 rfl)
     refine ja st191 ?_
     have g192f := (V177b.keep K182q (ninS nt_b56_da nin0)).other W189 ((Ne.symm nt_b61_b56))
     have g193f := (g178f.keep K182q (ninS nt_tt_da nin0)).other W189 (Or.inl (Ne.symm nt_b61_tt))
     refine ja (A := oW p e below T191 (jd m 219 (oR tt) (oR ns) (oR ww) (oR pp) (oR sl) (oi (Int32.ofNat iA)) (oR wp) ou ou ou ou [(.ref tt)])) (fun t k => by
      refine XS.iload X191.here hx rfl (dd 88 rfl) rfl ?_
      refine jbz X191 hx hZ12 e191 g192f ⟨(jU iA (by omega) nn (by omega)).2.2.1, (jU iA (by omega) nn (by omega)).1 hiA⟩ (v := (.int (ss.getD iA 0))) (by rw [(jU iA (by omega) nn (by omega)).2.2.2, jbq, jfC hiA]) (g := (jd m 214 (oR tt) (oR ns) (oR ww) (oR pp) (oR sl) (oi (Int32.ofNat iA)) (oR wp) ou ou ou ou [(.int (Int32.ofNat iA)), (.ref b56)])) rfl rfl (dd 89 rfl) _ ?_
      refine XS.ifNo X191.here hx rfl (dd 90 rfl) rfl ((if0 _ _).trans (flt (jiF (hos iA hiA).1)).1) ?_
      refine XS.aloadN X191.here hx rfl (dd 91 rfl) rfl rfl ?_
      exact k) ?_
     obtain ⟨T194, X194, e194, st194⟩ := getF X191 hx hZ12 hown12 (host := "") (Or.inl ow410) Via.refl e191 g193f (g := (jd m 219 (oR tt) (oR ns) (oR ww) (oR pp) (oR sl) (oi (Int32.ofNat iA)) (oR wp) ou ou ou ou [(.ref tt)])) rfl rfl (dd 92 rfl)
     refine ja st194 ?_
     have g195f := (((fA_6.keep K175q (ninS nt_tt_sa nin0)).other W177 (Or.inl (Ne.symm nt_b56_tt))).keep K182q (ninS nt_tt_da nin0)).other W189 (Or.inl (Ne.symm nt_b61_tt))
     refine ja (A := oW p e below T194 (jd m 253 (oR tt) (oR ns) (oR ww) (oR pp) (oR sl) (oi (Int32.ofNat iA)) (oR wp) ou ou ou ou [(.ref tt)])) (fun t k => by
      refine XS.iload X194.here hx rfl (dd 93 rfl) rfl ?_
      show oW p e below T194 (jd m 224 (oR tt) (oR ns) (oR ww) (oR pp) (oR sl) (oi (Int32.ofNat iA)) (oR wp) ou ou ou ou [(.int (Int32.ofNat iA)), (.ref b61)]) _
      refine jbz X194 hx hZ12 e194 V189b ⟨(jU iA (by omega) nn (by omega)).2.2.1, (jU iA (by omega) nn (by omega)).1 hiA⟩ (v := (.int (ds.getD iA 0))) (by rw [(jU iA (by omega) nn (by omega)).2.2.2, jbq, jfC hiA]) (g := (jd m 224 (oR tt) (oR ns) (oR ww) (oR pp) (oR sl) (oi (Int32.ofNat iA)) (oR wp) ou ou ou ou [(.int (Int32.ofNat iA)), (.ref b61)])) rfl rfl (dd 94 rfl) _ ?_
      refine XS.ifYes X194.here hx rfl (pc0 := 225) (pc' := 252) rfl (dd 95 rfl) rfl ((if0 _ _).trans (flt (jiF (hod iA hiA).1)).2.1) (by decide) (by decide) ?_
      refine XS.aloadN X194.here hx rfl (dd 105 rfl) rfl rfl ?_
      exact k) ?_
     obtain ⟨T196, X196, e196, st196⟩ := getF X194 hx hZ12 hown12 (host := "") (Or.inl ow158) Via.refl e194 g195f (g := (jd m 253 (oR tt) (oR ns) (oR ww) (oR pp) (oR sl) (oi (Int32.ofNat iA)) (oR wp) ou ou ou ou [(.ref tt)])) rfl rfl (dd 106 rfl)
     refine ja st196 ?_
     refine ja (A := oW p e below T196 (jd m 257 (oR tt) (oR ns) (oR ww) (oR pp) (oR sl) (oi (Int32.ofNat iA)) (oR wp) ou ou ou ou [(.ref tt), (.ref b6)])) (fun t k => by
      refine XS.aloadN X196.here hx rfl (dd 107 rfl) rfl rfl ?_
      exact k) ?_
     obtain ⟨T197, X197, e197, st197⟩ := getF X196 hx hZ12 hown12 (host := "") (Or.inl ow410) Via.refl e196 g193f (g := (jd m 257 (oR tt) (oR ns) (oR ww) (oR pp) (oR sl) (oi (Int32.ofNat iA)) (oR wp) ou ou ou ou [(.ref tt), (.ref b6)])) rfl rfl (dd 108 rfl)
     refine ja st197 ?_
     have g198f := (((fA_4.keep K175q).wr W177).keep K182q).wr W189
     refine ja (A := oW p e below T197 (jd m 263 (oR tt) (oR ns) (oR ww) (oR pp) (oR sl) (oi (Int32.ofNat iA)) (oR wp) ou ou ou ou [(.int (ds.getD iA 0)), (.ref b6)])) (fun t k => by
      refine XS.iload X197.here hx rfl (dd 109 rfl) rfl ?_
      show oW p e below T197 (jd m 262 (oR tt) (oR ns) (oR ww) (oR pp) (oR sl) (oi (Int32.ofNat iA)) (oR wp) ou ou ou ou [(.int (Int32.ofNat iA)), (.ref b61), (.ref b6)]) _
      refine jbz X197 hx hZ12 e197 V189b ⟨(jU iA (by omega) nn (by omega)).2.2.1, (jU iA (by omega) nn (by omega)).1 hiA⟩ (v := (.int (ds.getD iA 0))) (by rw [(jU iA (by omega) nn (by omega)).2.2.2, jbq, jfC hiA]) (g := (jd m 262 (oR tt) (oR ns) (oR ww) (oR pp) (oR sl) (oi (Int32.ofNat iA)) (oR wp) ou ou ou ou [(.int (Int32.ofNat iA)), (.ref b61), (.ref b6)])) rfl rfl (dd 110 rfl) _ ?_
      exact k) ?_
     have g200f := f182_8.keep (Keep.of_wr W189) (allS ⟨_, (((fA_16.keep K175q).wr W177).keep K182q), by decide⟩ all0)
     have g201f := (g185f.keepS K182q g186f p182_0).keep (Keep.of_wr W189) (allS ⟨_, (((fA_16.keep K175q).wr W177).keep K182q), by decide⟩ all0)
     obtain ⟨_, T199, L199, X199, hQ199, st199⟩ := jax X197 hx hZ12 hown12 ow481 ow482 ow484 ow483 ow485 ow138 (jgW l Z a0 hw [] b6 (ds.getD iA 0) wa h189 n0 Z189 g200f (hod iA hiA).1 g201f.2.2.2.2.2.2.2.2.2.2.2.2) e197 (notFace_of_selects (args := #[]) (mvT hZ12 ow484)) g198f (by decide) (g := (jd m 263 (oR tt) (oR ns) (oR ww) (oR pp) (oR sl) (oi (Int32.ofNat iA)) (oR wp) ou ou ou ou [(.int (ds.getD iA 0)), (.ref b6)])) rfl (by rw [hml]; rfl) (rest := []) rfl (lenOf jbu rfl) rfl (W := 0) (Nat.le_of_eq rfl) (dd 111 rfl) (by decide)
     obtain ⟨rfl, N199q, K199q, p199_0, p199_1⟩ := hQ199
     have N199 := Fr.app N189 N199q
     have f199_9 := ((((fA_9.keep K175q (ninS nt_tt_sa nin0)).other W177 (Or.inl (Ne.symm nt_b56_tt))).keep K182q (ninS nt_tt_da nin0)).other W189 (Or.inl (Ne.symm nt_b61_tt))).keep K199q (ninS nt_tt_b6 (ninS (Ne.symm nt_wa_tt) nin0))
     have f199_10 := ((g184f.keepS K182q g186f p182_0).keep (Keep.of_wr W189) (allS ⟨_, (((fA_16.keep K175q).wr W177).keep K182q), by decide⟩ all0)).keep K199q (allS ⟨_, g198f, by decide⟩ (allS ⟨_, ((((fA_5.keep K175q).wr W177).keep K182q).wr W189), by decide⟩ all0))
     have f199_11 := (f182_11.keep (Keep.of_wr W189) (allS ⟨_, (((fA_16.keep K175q).wr W177).keep K182q), by decide⟩ all0)).keep K199q (allS ⟨_, g198f, by decide⟩ (allS ⟨_, ((((fA_5.keep K175q).wr W177).keep K182q).wr W189), by decide⟩ all0))
     have nt_b56_wa : b56 ≠ wa := Ne.symm (Nat.ne_of_lt (Nat.lt_of_lt_of_le fE_6.lt (Nat.le_of_eq g56.symm)))
     have nt_b56_b6 : b56 ≠ b6 := Ne.symm (Nat.ne_of_lt (Nat.lt_of_lt_of_le fE_5.lt (Nat.le_of_eq g56.symm)))
     have nt_b61_wa : b61 ≠ wa := Ne.symm (Nat.ne_of_lt (Nat.lt_of_lt_of_le ((fE_6.ext E56).wr W58).lt (Nat.le_of_eq g61.symm)))
     have nt_b61_b6 : b61 ≠ b6 := Ne.symm (Nat.ne_of_lt (Nat.lt_of_lt_of_le ((fE_5.ext E56).wr W58).lt (Nat.le_of_eq g61.symm)))
     have nt_pea_wa : pea ≠ wa := (Exa.ne ((((Epe.keep K175q).wr W177).keep K182q).wr W189) ((((fA_5.keep K175q).wr W177).keep K182q).wr W189) (by decide))
     have nt_pea_b6 : pea ≠ b6 := (Exa.ne ((((Epe.keep K175q).wr W177).keep K182q).wr W189) g198f (by decide))
     have f199_19 := ((((Vpe.keep K175q (ninS nt_pea_sa nin0)).other W177 (nt_pea_b56)).keep K182q (ninS nt_pea_da nin0)).other W189 (nt_pea_b61)).keep K199q (ninS nt_pea_b6 (ninS nt_pea_wa nin0))
     have nt_wp_wa : wp ≠ wa := (Exa.ne ((((Ewp.keep K175q).wr W177).keep K182q).wr W189) ((((fA_5.keep K175q).wr W177).keep K182q).wr W189) (by decide))
     have nt_wp_b6 : wp ≠ b6 := (Exa.ne ((((Ewp.keep K175q).wr W177).keep K182q).wr W189) g198f (by decide))
     have f199_21 := ((((Fwa.keep K175q (ninS nt_wp_sa nin0)).other W177 (Or.inl nt_wp_b56)).keep K182q (ninS nt_wp_da nin0)).other W189 (Or.inl nt_wp_b61)).keep K199q (ninS nt_wp_b6 (ninS nt_wp_wa nin0))
     have f199_26 := (p182_0.keep (Keep.of_wr W189) (allS ⟨_, (((fA_16.keep K175q).wr W177).keep K182q), by decide⟩ all0)).keep K199q (allS ⟨_, g198f, by decide⟩ (allS ⟨_, ((((fA_5.keep K175q).wr W177).keep K182q).wr W189), by decide⟩ all0))
     have Z199 : n0 ≤ T199.heap.size := Nat.le_trans Z189 K199q.1
     refine ja st199 ?_
     refine ja (A := oW p e below T199 (jd m 152 (oR tt) (oR ns) (oR ww) (oR pp) (oR sl) (oi ((Int32.ofNat iA) + (1 : Int32))) (oR wp) ou ou ou ou [])) (fun t k => by
      refine XS.iinc X199.here hx rfl (dd 112 rfl) rfl (l' := #[(oR tt), (oR ns), (oR ww), (oR pp), (oR sl), (oi ((Int32.ofNat iA) + (1 : Int32))), (oR wp), ou, ou, ou, ou]) rfl ?_
      refine XS.goto X199.here hx rfl (pc0 := 269) (pc' := 152) rfl (dd 113 rfl) (by decide) (by decide) ?_
      exact k) ?_
     rw [jda]
     have g202f := ((((fA_0.keep K175q).wr W177).keep K182q).wr W189).keep K199q
     have g203f := ((((fA_1.keep K175q).keep (Keep.of_wr W177)).keep K182q).keep (Keep.of_wr W189)).keep K199q
     have g204f := g201f.keep K199q (allS ⟨_, g198f, by decide⟩ (allS ⟨_, ((((fA_5.keep K175q).wr W177).keep K182q).wr W189), by decide⟩ all0))
     have g205f := ((g183f.keep K182q (ninS nt_tt_da nin0)).other W189 (Or.inl (Ne.symm nt_b61_tt))).keep K199q (ninS nt_tt_b6 (ninS (Ne.symm nt_wa_tt) nin0))
     have g206f := ((((fA_5.keep K175q).wr W177).keep K182q).wr W189).keep K199q
     have g207f := g195f.keep K199q (ninS nt_tt_b6 (ninS (Ne.symm nt_wa_tt) nin0))
     have g208f := ((((fA_7.keep K175q).keep (Keep.of_wr W177)).keep K182q).keep (Keep.of_wr W189)).keep K199q
     have g209f := g192f.keep K199q (ninS nt_b56_b6 (ninS nt_b56_wa nin0))
     have g210f := ((((fA_13.keep K175q).wr W177).keep K182q).wr W189).keep K199q
     have g211f := g190f.keep K199q (ninS nt_tt_b6 (ninS (Ne.symm nt_wa_tt) nin0))
     have g212f := V189b.keep K199q (ninS nt_b61_b6 (ninS nt_b61_wa nin0))
     have g213f := ((((fA_16.keep K175q).wr W177).keep K182q).wr W189).keep K199q
     have g214f := g193f.keep K199q (ninS nt_tt_b6 (ninS (Ne.symm nt_wa_tt) nin0))
     exact ihA (iA + 1) ((oR wp)) _ _ _ (by omega) X199 rfl N199 Z199 (Or.inr ⟨_, rfl, rfl⟩) g202f g203f g204f g205f (g198f.keep K199q) g206f g207f g208f p199_0 f199_9 f199_10 f199_11 g209f g210f g211f g212f g213f g214f
   exact lpA nn 0 (s6E) _ _ _ (by omega) X64 e64 N64 Z64 sdE ((((fE_0.ext E56).wr W58).ext E61).wr W64) (g63f.keep (Keep.of_wr W64)) g65f g66f ((((fE_5.ext E56).wr W58).ext E61).wr W64) ((((fE_6.ext E56).wr W58).ext E61).wr W64) g67f g68f f64_8 g69f f64_10 f64_11 g70f (((Q56.wr W58).ext E61).wr W64) g71f (V61.other W64 (nt_b61_tt)) (Q61.wr W64) f64_17
  | succ nE ihE =>
   intro iE s6E TE locsE hE rE XE eE NE ZE sdE fE_0 fE_1 fE_2 fE_3 fE_4 fE_5 fE_6 fE_7 fE_8 fE_9 fE_10 fE_11 fE_12 fE_13 fE_14 fE_15 fE_16 fE_17
   have hiE : iE < je kk := by omega
   refine ja (A := oW p e below TE (jd m 60 (oR tt) (oR ns) (oR ww) (oR pp) (oR sl) (oR it) s6E ou ou ou ou [(.ref it)])) (fun t k => by
    refine XS.aload XE.here hx rfl (dd 26 rfl) rfl rfl ?_
    exact k) ?_
   obtain ⟨_, T215, L215, X215, hQ215, st215⟩ := jaI XE hx hZ12 hown12 ow283 ow284 ow286 ow287 (mvT hZ12 ow285) ow288 ow289 ow290 ow291 ow263 (jfz l Z a0 hw [] it kk (Int32.ofNat iE) hE n0 ZE fE_15 fE_16 (fun q => Int32.lt_irrefl (by have z := (jcC hk iE (by omega) hiE).2.2.2.2.2; rw [q] at z; exact z))) eE fE_13 (by decide) (g := (jd m 60 (oR tt) (oR ns) (oR ww) (oR pp) (oR sl) (oR it) s6E ou ou ou ou [(.ref it)])) rfl (by rw [hml]; rfl) (rest := []) rfl (lenOf jaJ rfl) rfl (W := 0) (Nat.le_of_eq rfl) (dd 27 rfl) (by dsimp only; omega)
   obtain ⟨rfl, N215q, eh215⟩ := hQ215
   have N215 := Fr.app NE N215q
   refine ja st215 ?_
   refine ja (A := oW p e below T215 (jd m 70 (oR tt) (oR ns) (oR ww) (oR pp) (oR sl) (oR it) s6E ou ou ou ou [(.ref it)])) (fun t k => by
    refine XS.ifNo X215.here hx rfl (dd 28 rfl) rfl ((if0 _ _).trans (feq (by decide : ¬ ((1 : Int32) = (0 : Int32)))).1) ?_
    show oW p e below T215 (jd m 68 (oR tt) (oR ns) (oR ww) (oR pp) (oR sl) (oR it) s6E ou ou ou ou []) _
    refine XS.aload X215.here hx rfl (dd 29 rfl) rfl rfl ?_
    exact k) ?_
   obtain ⟨_, T216, L216, X216, hQ216, st216⟩ := jls X215 hx hZ12 hown12 ow292 ow293 ow295 ow296 (mvT hZ12 ow294) ow297 ow298 ow290 ow299 ow263 (jhS l Z a0 hw it wl kk xs iE hE n0 ZE fE_13 g_it fE_14 fE_15 fE_16 fE_17 fE_11 hk hiE) eh215 fE_13 (by decide) (g := (jd m 70 (oR tt) (oR ns) (oR ww) (oR pp) (oR sl) (oR it) s6E ou ou ou ou [(.ref it)])) rfl (by rw [hml]; rfl) (rest := []) rfl (lenOf jbj rfl) rfl (W := 0) (Nat.le_of_eq rfl) (dd 30 rfl) (by dsimp only; omega)
   obtain ⟨rfl, N216q, K216q, p216_0, p216_1, p216_2, p216_3⟩ := hQ216
   have N216 := Fr.app N215 N216q
   have hx216 := (fE_11).2.1 iE (by rw [(fE_11).1]; exact hiE)
   obtain ⟨sx, hsx⟩ : ∃ z, z = xs.getD iE 0 := ⟨_, rfl⟩
   rw [← hsx] at hx216 st216
   have nt_tt_it : tt ≠ it := Nat.ne_of_lt (Nat.lt_of_lt_of_le (((((g9f.wr W11).ext E12).wr W17).keep K29q).wr W34).lt s_it)
   have Z216 : n0 ≤ T216.heap.size := Nat.le_trans ZE K216q.1
   refine ja st216 ?_
   obtain ⟨T217, X217, e217, st217⟩ := castY X216 hx hZ12 hown12 ow162 rfl (Ins.self (hx216.2.1.keep K216q)) (g := (jd m 75 (oR tt) (oR ns) (oR ww) (oR pp) (oR sl) (oR it) s6E ou ou ou ou [(.ref sx)])) rfl rfl (dd 31 rfl)
   refine ja st217 ?_
   refine ja (A := oW p e below T217 (jd m 81 (oR tt) (oR ns) (oR ww) (oR pp) (oR sl) (oR it) (oR sx) ou ou ou ou [(.ref tt)])) (fun t k => by
    refine XS.astore X217.here hx rfl (dd 32 rfl) rfl rfl (l' := #[(oR tt), (oR ns), (oR ww), (oR pp), (oR sl), (oR it), (oR sx), ou, ou, ou, ou]) (XS.store1 rfl (sdE) (rfl)) ?_
    refine XS.aloadN X217.here hx rfl (dd 33 rfl) rfl rfl ?_
    exact k) ?_
   obtain ⟨T218, X218, e218, st218⟩ := getF X217 hx hZ12 hown12 (host := "") (Or.inl ow134) Via.refl e217 (fE_4.keep K216q (ninS nt_tt_it nin0)) (g := (jd m 81 (oR tt) (oR ns) (oR ww) (oR pp) (oR sl) (oR it) (oR sx) ou ou ou ou [(.ref tt)])) rfl rfl (dd 34 rfl)
   refine ja st218 ?_
   refine ja (A := oW p e below T218 (jd m 87 (oR tt) (oR ns) (oR ww) (oR pp) (oR sl) (oR it) (oR sx) ou ou ou ou [(.ref tt), (.ref sx), (.ref b2)])) (fun t k => by
    refine XS.aload X218.here hx rfl (dd 35 rfl) rfl rfl ?_
    refine XS.aloadN X218.here hx rfl (dd 36 rfl) rfl rfl ?_
    exact k) ?_
   obtain ⟨T219, X219, e219, st219⟩ := getF X218 hx hZ12 hown12 (host := "") (Or.inl ow134) Via.refl e218 (fE_4.keep K216q (ninS nt_tt_it nin0)) (g := (jd m 87 (oR tt) (oR ns) (oR ww) (oR pp) (oR sl) (oR it) (oR sx) ou ou ou ou [(.ref tt), (.ref sx), (.ref b2)])) rfl rfl (dd 37 rfl)
   refine ja st219 ?_
   have g221f := fE_10.keep K216q (allS ⟨_, fE_13, by decide⟩ all0)
   obtain ⟨_, T220, L220, X220, hQ220, st220⟩ := jaI X219 hx hZ12 hown12 ow308 ow309 ow311 ow312 (mvT hZ12 ow310) ow313 ow314 ow315 ow316 ow120 (jgE l Z a0 hw [] b2 (Int32.ofNat iE) T216.heap n0 Z216 (jbh.size g221f)) e219 (fE_3.keep K216q) (by decide) (g := (jd m 90 (oR tt) (oR ns) (oR ww) (oR pp) (oR sl) (oR it) (oR sx) ou ou ou ou [(.ref b2), (.ref sx), (.ref b2)])) rfl (by rw [hml]; rfl) (rest := [(.ref sx), (.ref b2)]) rfl (lenOf jag rfl) rfl (W := 2) (Nat.le_of_eq rfl) (dd 38 rfl) (by dsimp only; omega)
   obtain ⟨rfl, N220q, eh220⟩ := hQ220
   have N220 := Fr.app N216 N220q
   refine ja st220 ?_
   have g223f := fE_2.keep K216q (allS ⟨_, fE_13, by decide⟩ all0)
   obtain ⟨_, T222, L222, X222, hQ222, st222⟩ := jH X220 hx hZ12 hown12 ow319 ow320 ow322 ow321 (jdF l Z a0 hw [] (Int32.ofNat iE) ca T216.heap n0 Z216 g223f.2.2.2.2.2.2.2.1 (Or.inr (jjt iE (by omega)))) eh220 (by decide) (g := (jd m 95 (oR tt) (oR ns) (oR ww) (oR pp) (oR sl) (oR it) (oR sx) ou ou ou ou [(.int (Int32.ofNat iE)), (.ref sx), (.ref b2)])) rfl (by rw [hml]; rfl) (rest := [(.ref sx), (.ref b2)]) rfl (lenOf jal rfl) rfl (W := 2) (Nat.le_of_eq rfl) (dd 39 rfl) (by dsimp only; omega)
   obtain ⟨x222b, rfl, N222q, eh222, p222_0⟩ := hQ222
   have N222 := Fr.app N220 N222q
   rw [eh222] at p222_0
   refine ja st222 ?_
   have g225f := hx216.keep K216q (allS ⟨_, fE_13, by decide⟩ all0)
   obtain ⟨_, T224, L224, X224, hQ224, st224⟩ := jaI X222 hx hZ12 hown12 ow326 ow327 ow329 ow330 (mvT hZ12 ow328) ow331 ow332 ow315 ow333 ow120 (jhT l Z a0 hw [] b2 sx x222b cz iE T216.heap n0 Z216 g223f.2.2.2.2.2.2.2.2.1 hcz g225f g221f (by omega) p222_0) eh222 (fE_3.keep K216q) (by decide) (g := (jd m 98 (oR tt) (oR ns) (oR ww) (oR pp) (oR sl) (oR it) (oR sx) ou ou ou ou [(.ref x222b), (.ref sx), (.ref b2)])) rfl (by rw [hml]; rfl) (rest := []) rfl (lenOf jB rfl) rfl (W := 0) (Nat.le_of_eq rfl) (dd 40 rfl) (by dsimp only; omega)
   obtain ⟨rfl, N224q, ⟨wa224, K224q, NW224⟩, p224_0, p224_1, p224_2⟩ := hQ224
   have N224 := Fr.app N222 N224q
   have hps224 := g225f
   have nt_tt_sx : tt ≠ sx := (Exa.ne (fE_0.keep K216q) (hx216.2.1.keep K216q) (by decide))
   have nt_it_sx : it ≠ sx := (Exa.ne (fE_13.keep K216q) (hx216.2.1.keep K216q) (by decide))
   have Z224 : n0 ≤ T224.heap.size := Nat.le_trans Z216 K224q.1
   refine ja st224 ?_
   refine ja (A := oW p e below T224 (jd m 58 (oR tt) (oR ns) (oR ww) (oR pp) (oR sl) (oR it) (oR sx) ou ou ou ou [])) (fun t k => by
    refine XS.ifnullYes X224.here hx rfl (pc0 := 103) (pc' := 122) rfl (dd 41 rfl) rfl (by decide) (by decide) ?_
    refine XS.goto X224.here hx rfl (pc0 := 122) (pc' := 58) rfl (dd 48 rfl) (by decide) (by decide) ?_
    exact k) ?_
   have g226f := p216_2.keep K224q (jbQ NW224 (fE_13.keep K216q) (by decide) nt_it_sx)
   have cu227 : Fld Z T224.heap it S6' S20' "I" (.int (Int32.ofNat (iE + 1))) := by have q := g226f; rw [jda] at q; exact q
   have g228f := g223f.keepW K224q (jfZ NW224 (by decide)) hps224 p224_1
   have g229f := (fE_4.keep K216q (ninS nt_tt_it nin0)).keep K224q (jbQ NW224 (fE_0.keep K216q) (by decide) nt_tt_sx)
   have g230f := (fE_7.keep K216q (ninS nt_tt_it nin0)).keep K224q (jbQ NW224 (fE_0.keep K216q) (by decide) nt_tt_sx)
   have g231f := (fE_9.keep K216q (allS ⟨_, fE_13, by decide⟩ all0)).keep K224q (jlF NW224 hps224.2.1 (by decide) (by decide))
   have g232f := (fE_11.keep K216q (allS ⟨_, fE_13, by decide⟩ all0)).keepW K224q NW224 hps224 p224_1
   have g233f := (fE_12.keep K216q (ninS nt_tt_it nin0)).keep K224q (jbQ NW224 (fE_0.keep K216q) (by decide) nt_tt_sx)
   have g234f := p216_0.keep K224q (jbQ NW224 (fE_13.keep K216q) (by decide) nt_it_sx)
   have g235f := p216_1.keep K224q (jbQ NW224 (fE_13.keep K216q) (by decide) nt_it_sx)
   have g236f := p216_3.keep K224q (jbQ NW224 (fE_13.keep K216q) (by decide) nt_it_sx)
   exact ihE (iE + 1) ((oR sx)) _ _ _ (by omega) (X224.mono (by dsimp only; omega) (by dsimp only; omega)) rfl N224 Z224 (Or.inr ⟨_, rfl, rfl⟩) ((fE_0.keep K216q).keep K224q) ((fE_1.keep K216q).keep K224q) g228f ((fE_3.keep K216q).keep K224q) g229f ((fE_5.keep K216q).keep K224q) ((fE_6.keep K216q).keep K224q) g230f ((fE_8.keep K216q).keep K224q) g231f p224_0 g232f g233f ((fE_13.keep K216q).keep K224q) g234f g235f cu227 g236f
 exact lpE (je kk) 0 ou _ _ _ (by omega) X37 rfl N37 Z37 (Or.inl rfl) g38f ((g33f.keep (Keep.of_wr W34)).keep K37q) g39f (((g24f.keep K29q).wr W34).keep K37q) g40f f37_5 g41f g42f g43f g44f g45f (g36f.keep K37q all0) (f34_12.keep K37q nin0) p37_0 p37_1 p37_2 p37_3 p37_4
def jbn (k : Int32) (ss : List Int32) (w : Int32) : Int32 := if (jbs k ss).getD w.toNatClampNeg 0 < (jbs k ss).getD (w + (1 : Int32)).toNatClampNeg 0 then 1 else 0
def jcE (w n a b c : Int32) : Int32 := if (0 : Int32) < n then (if a = w then 1 else if (1 : Int32) < n then (if b = w then 1 else if (2 : Int32) < n then (if c = w then 1 else 0) else 0) else 0) else 0
theorem jlG {k s : Int32} (h : jaM k) (h3 : jaf s) (hl : s < k) : s < k + 1 := by rcases h with rfl | rfl | rfl <;> rcases h3 with rfl | rfl | rfl <;> revert hl <;> decide
theorem jbI {n : Int32} : (¬ (0 : Int32) < n → ¬ (1 : Int32) < n) ∧ (¬ (1 : Int32) < n → ¬ (2 : Int32) < n) := by
 simp only [Int32.lt_iff_toInt_lt]
 have a : (0 : Int32).toInt = 0 := rfl
 have b : (1 : Int32).toInt = 1 := rfl
 have c : (2 : Int32).toInt = 2 := rfl
 rw [a, b, c]; omega
abbrev jcq (m : MethodId) (pc : Nat) (a0 a1 : Slot) (S : List Value) : JFrame := mkF m pc #[a0, a1] S
theorem oD42_10p : oDec prog_42_method_10_code [(0, .aload_n 0, 1), (1, .getfield 117, 3), (4, .iload_n 1, 1), (5, .iconst 1, 1), (6, .iadd, 1), (7, .iaload, 1), (8, .aload_n 0, 1), (9, .getfield 117, 3), (12, .iload_n 1, 1), (13, .iaload, 1), (14, .if_icmp .le 7, 3), (17, .iconst 1, 1), (18, .goto 4, 3), (21, .iconst 0, 1), (22, .ireturn, 1)] := by decide +kernel
def jju (Z : State) (tt : Addr) (pw : Int32) (kk : Int32) (ss : List Int32) (sa : Addr) (ks : ClassId) (h0 : Heap) (n0 : Nat) (v : Option Value) (h : Heap) (L : List Loc) : Prop := v = some (.int (jbn kk ss pw)) ∧ Fr n0 L ∧ h = h0
theorem jdb (l : Launch) (Z : State) (a0 : Array Value) (hw : oH a0 Z) (ws : List Jvm.Cond) (tt : Addr) (pw : Int32) (kk : Int32) (ss : List Int32) (sa : Addr) (ks : ClassId) (h0 : Heap) (n0 : Nat) (Z0 : n0 ≤ h0.size) (hk : jaM kk) (hw3 : jaf pw) (hwk : pw < kk) (Fs0 : Fld Z h0 tt S7' S41' "[I" (.ref sa)) (Vs0 : Arv Z h0 sa ks .int (kk + (1 : Int32)) (oM (jbs kk ss)) (.int 0)) :
  ji l Z (⟨S7', "isPipSource", "(I)Z"⟩ : MethodName) prog_42_method_10_code 2 (some .boolean) ws ({ frames := 0, cells := 0, slots := 0, locals := 0 } : Room) #[(.ref tt), (.int pw)] h0 (jju Z tt pw kk ss sa ks h0 n0) := by
 refine jb (plainFor_of_name jJ) (fun m => jas m tt pw) ?_
 intro p e s m below meth c s₁ Bd hx hby hml hown hZ X0 e0 Pf hPf
 have N0 := Fr.nil n0
 have dd := oD42_10p.hb hby
 have ow505 := ow hw 505 rfl
 refine ja (A := oW p e below s₁ (jcq m 1 (oR tt) (oi pw) [(.ref tt)])) (fun t k => by
  refine XS.aloadN X0.here hx rfl (dd 0 rfl) rfl rfl ?_
  exact k) ?_
 obtain ⟨T1, X1, e1, st1⟩ := getF X0 hx hZ hown (host := "") (Or.inl ow505) Via.refl e0 Fs0 (g := (jcq m 1 (oR tt) (oi pw) [(.ref tt)])) rfl rfl (dd 1 rfl)
 refine ja st1 ?_
 refine ja (A := oW p e below T1 (jcq m 9 (oR tt) (oi pw) [(.ref tt), (.int ((jbs kk ss).getD (pw + (1 : Int32)).toNatClampNeg 0))])) (fun t k => by
  refine XS.iloadN X1.here hx rfl (dd 2 rfl) rfl ?_
  refine XS.iconst X1.here hx rfl (dd 3 rfl) ?_
  refine XS.iadd X1.here hx rfl (dd 4 rfl) rfl ?_
  refine jbz X1 hx hZ e1 Vs0 ⟨(jcf hk hw3 hwk).1, (jcf hk hw3 hwk).2.1⟩ (v := (.int ((jbs kk ss).getD (pw + (1 : Int32)).toNatClampNeg 0))) (jbq _ _) (g := (jcq m 7 (oR tt) (oi pw) [(.int (pw + (1 : Int32))), (.ref sa)])) rfl rfl (dd 5 rfl) _ ?_
  show oW p e below T1 (jcq m 8 (oR tt) (oi pw) [(.int ((jbs kk ss).getD (pw + (1 : Int32)).toNatClampNeg 0))]) _
  refine XS.aloadN X1.here hx rfl (dd 6 rfl) rfl rfl ?_
  exact k) ?_
 obtain ⟨T2, X2, e2, st2⟩ := getF X1 hx hZ hown (host := "") (Or.inl ow505) Via.refl e1 Fs0 (g := (jcq m 9 (oR tt) (oi pw) [(.ref tt), (.int ((jbs kk ss).getD (pw + (1 : Int32)).toNatClampNeg 0))])) rfl rfl (dd 7 rfl)
 refine ja st2 ?_
 refine ja (A := oW p e below T2 (jcq m 14 (oR tt) (oi pw) [(.int ((jbs kk ss).getD pw.toNatClampNeg 0)), (.int ((jbs kk ss).getD (pw + (1 : Int32)).toNatClampNeg 0))])) (fun t k => by
  refine XS.iloadN X2.here hx rfl (dd 8 rfl) rfl ?_
  refine jbz X2 hx hZ e2 Vs0 ⟨(jcf hk hw3 hwk).2.2.2.1, jlG hk hw3 hwk⟩ (v := (.int ((jbs kk ss).getD pw.toNatClampNeg 0))) (jbq _ _) (g := (jcq m 13 (oR tt) (oi pw) [(.int pw), (.ref sa), (.int ((jbs kk ss).getD (pw + (1 : Int32)).toNatClampNeg 0))])) rfl rfl (dd 9 rfl) _ ?_
  exact k) ?_
 by_cases hc14_3 : ((jbs kk ss).getD pw.toNatClampNeg 0) < ((jbs kk ss).getD (pw + (1 : Int32)).toNatClampNeg 0)
 ·
  refine ja (A := oW p e below T2 (jcq m 22 (oR tt) (oi pw) [(.int 1)])) (fun t k => by
   refine XS.icmpNo X2.here hx rfl (dd 10 rfl) rfl (tlt hc14_3).2.2.2 ?_
   refine XS.iconst X2.here hx rfl (dd 11 rfl) ?_
   show oW p e below T2 (jcq m 18 (oR tt) (oi pw) [(.int 1)]) _
   refine XS.goto X2.here hx rfl (pc0 := 18) (pc' := 22) rfl (dd 12 rfl) (by decide) (by decide) ?_
   exact k) ?_
  refine jaw X2 hx Bd (by simp) hPf (by decide) (by decide) (dd 14 rfl) ?_
  rw [e2]
  exact ⟨(by unfold jbn; repeat' split <;> first | rfl | contradiction), N0, rfl⟩
 ·
  refine ja (A := oW p e below T2 (jcq m 22 (oR tt) (oi pw) [(.int 0)])) (fun t k => by
   refine XS.icmpYes X2.here hx rfl (pc0 := 14) (pc' := 21) rfl (dd 10 rfl) rfl (flt hc14_3).2.2.2 (by decide) (by decide) ?_
   refine XS.iconst X2.here hx rfl (dd 13 rfl) ?_
   exact k) ?_
  refine jaw X2 hx Bd (by simp) hPf (by decide) (by decide) (dd 14 rfl) ?_
  rw [e2]
  exact ⟨(by unfold jbn; repeat' split <;> first | rfl | contradiction), N0, rfl⟩
abbrev jbi (m : MethodId) (pc : Nat) (a0 a1 a2 a3 a4 : Slot) (S : List Value) : JFrame := mkF m pc #[a0, a1, a2, a3, a4] S
theorem oD3x : oDec method_3_code [(0, .iload_n 1, 1), (1, .ifCond .le 8, 3), (4, .iload_n 2, 1), (5, .iload_n 0, 1), (6, .if_icmp .eq 24, 3), (9, .iload_n 1, 1), (10, .iconst 1, 1), (11, .if_icmp .le 8, 3), (14, .iload_n 3, 1), (15, .iload_n 0, 1), (16, .if_icmp .eq 14, 3), (19, .iload_n 1, 1), (20, .iconst 2, 1), (21, .if_icmp .le 13, 3), (24, .iload 4, 2), (26, .iload_n 0, 1), (27, .if_icmp .ne 7, 3), (30, .iconst 1, 1), (31, .goto 4, 3), (34, .iconst 0, 1), (35, .ireturn, 1)] := by decide +kernel
theorem jdy (m : MethodId) (x0 : Int32) (x1 : Int32) (x2 : Int32) (x3 : Int32) (x4 : Int32) : entryFrame m #[(.int x0), (.int x1), (.int x2), (.int x3), (.int x4)] 5 = mkF m 0 #[(oi x0), (oi x1), (oi x2), (oi x3), (oi x4)] [] := by first | (simp [entryFrame, mkF, argsToLocals, Value.category]; done) | rfl
def jjv (Z : State) (pw : Int32) (pn : Int32) (pa : Int32) (pb : Int32) (pc : Int32)  (h0 : Heap) (n0 : Nat) (v : Option Value) (h : Heap) (L : List Loc) : Prop := v = some (.int (jcE pw pn pa pb pc)) ∧ Fr n0 L ∧ h = h0
theorem jdc (l : Launch) (Z : State) (a0 : Array Value) (hw : oH a0 Z) (ws : List Jvm.Cond) (pw : Int32) (pn : Int32) (pa : Int32) (pb : Int32) (pc : Int32)  (h0 : Heap) (n0 : Nat) (Z0 : n0 ≤ h0.size) :
  ji l Z (⟨S54', "ref", "(IIIII)Z"⟩ : MethodName) method_3_code 5 (some .boolean) ws ({ frames := 0, cells := 0, slots := 0, locals := 0 } : Room) #[(.int pw), (.int pn), (.int pa), (.int pb), (.int pc)] h0 (jjv Z pw pn pa pb pc h0 n0) := by
 refine jb (plainFor_of_name ju) (fun m => jdy m pw pn pa pb pc) ?_
 intro p e s m below meth c s₁ Bd hx hby hml hown hZ X0 e0 Pf hPf
 have N0 := Fr.nil n0
 have dd := oD3x.hb hby
 refine ja (A := oW p e below s₁ (jbi m 1 (oi pw) (oi pn) (oi pa) (oi pb) (oi pc) [(.int pn)])) (fun t k => by
  refine XS.iloadN X0.here hx rfl (dd 0 rfl) rfl ?_
  exact k) ?_
 by_cases hc1_1 : (0 : Int32) < pn
 ·
  refine ja (A := oW p e below s₁ (jbi m 6 (oi pw) (oi pn) (oi pa) (oi pb) (oi pc) [(.int pw), (.int pa)])) (fun t k => by
   refine XS.ifNo X0.here hx rfl (dd 1 rfl) rfl ((if0 _ _).trans (tlt hc1_1).2.2.2) ?_
   refine XS.iloadN X0.here hx rfl (dd 2 rfl) rfl ?_
   refine XS.iloadN X0.here hx rfl (dd 3 rfl) rfl ?_
   exact k) ?_
  by_cases hc6_2 : pa = pw
  ·
   refine ja (A := oW p e below s₁ (jbi m 35 (oi pw) (oi pn) (oi pa) (oi pb) (oi pc) [(.int 1)])) (fun t k => by
    refine XS.icmpYes X0.here hx rfl (pc0 := 6) (pc' := 30) rfl (dd 4 rfl) rfl (teq hc6_2).1 (by decide) (by decide) ?_
    show oW p e below s₁ (jbi m 30 (oi pw) (oi pn) (oi pa) (oi pb) (oi pc) []) _
    refine XS.iconst X0.here hx rfl (dd 17 rfl) ?_
    refine XS.goto X0.here hx rfl (pc0 := 31) (pc' := 35) rfl (dd 18 rfl) (by decide) (by decide) ?_
    exact k) ?_
   refine jaw X0 hx Bd (by simp) hPf (by decide) (by decide) (dd 20 rfl) ?_
   rw [e0]
   exact ⟨(by unfold jcE; repeat' split <;> first | rfl | contradiction), N0, rfl⟩
  ·
   refine ja (A := oW p e below s₁ (jbi m 11 (oi pw) (oi pn) (oi pa) (oi pb) (oi pc) [(.int 1), (.int pn)])) (fun t k => by
    refine XS.icmpNo X0.here hx rfl (dd 4 rfl) rfl (feq hc6_2).1 ?_
    refine XS.iloadN X0.here hx rfl (dd 5 rfl) rfl ?_
    refine XS.iconst X0.here hx rfl (dd 6 rfl) ?_
    exact k) ?_
   by_cases hc11_3 : (1 : Int32) < pn
   ·
    refine ja (A := oW p e below s₁ (jbi m 16 (oi pw) (oi pn) (oi pa) (oi pb) (oi pc) [(.int pw), (.int pb)])) (fun t k => by
     refine XS.icmpNo X0.here hx rfl (dd 7 rfl) rfl (tlt hc11_3).2.2.2 ?_
     refine XS.iloadN X0.here hx rfl (dd 8 rfl) rfl ?_
     refine XS.iloadN X0.here hx rfl (dd 9 rfl) rfl ?_
     exact k) ?_
    by_cases hc16_4 : pb = pw
    ·
     refine ja (A := oW p e below s₁ (jbi m 35 (oi pw) (oi pn) (oi pa) (oi pb) (oi pc) [(.int 1)])) (fun t k => by
      refine XS.icmpYes X0.here hx rfl (pc0 := 16) (pc' := 30) rfl (dd 10 rfl) rfl (teq hc16_4).1 (by decide) (by decide) ?_
      refine XS.iconst X0.here hx rfl (dd 17 rfl) ?_
      show oW p e below s₁ (jbi m 31 (oi pw) (oi pn) (oi pa) (oi pb) (oi pc) [(.int 1)]) _
      refine XS.goto X0.here hx rfl (pc0 := 31) (pc' := 35) rfl (dd 18 rfl) (by decide) (by decide) ?_
      exact k) ?_
     refine jaw X0 hx Bd (by simp) hPf (by decide) (by decide) (dd 20 rfl) ?_
     rw [e0]
     exact ⟨(by unfold jcE; repeat' split <;> first | rfl | contradiction), N0, rfl⟩
    ·
     refine ja (A := oW p e below s₁ (jbi m 21 (oi pw) (oi pn) (oi pa) (oi pb) (oi pc) [(.int 2), (.int pn)])) (fun t k => by
      refine XS.icmpNo X0.here hx rfl (dd 10 rfl) rfl (feq hc16_4).1 ?_
      refine XS.iloadN X0.here hx rfl (dd 11 rfl) rfl ?_
      refine XS.iconst X0.here hx rfl (dd 12 rfl) ?_
      exact k) ?_
     by_cases hc21_5 : (2 : Int32) < pn
     ·
      refine ja (A := oW p e below s₁ (jbi m 27 (oi pw) (oi pn) (oi pa) (oi pb) (oi pc) [(.int pw), (.int pc)])) (fun t k => by
       refine XS.icmpNo X0.here hx rfl (dd 13 rfl) rfl (tlt hc21_5).2.2.2 ?_
       show oW p e below s₁ (jbi m 24 (oi pw) (oi pn) (oi pa) (oi pb) (oi pc) []) _
       refine XS.iload X0.here hx rfl (dd 14 rfl) rfl ?_
       refine XS.iloadN X0.here hx rfl (dd 15 rfl) rfl ?_
       exact k) ?_
      by_cases hc27_6 : pc = pw
      ·
       refine ja (A := oW p e below s₁ (jbi m 35 (oi pw) (oi pn) (oi pa) (oi pb) (oi pc) [(.int 1)])) (fun t k => by
        refine XS.icmpNo X0.here hx rfl (dd 16 rfl) rfl (teq hc27_6).2 ?_
        refine XS.iconst X0.here hx rfl (dd 17 rfl) ?_
        refine XS.goto X0.here hx rfl (pc0 := 31) (pc' := 35) rfl (dd 18 rfl) (by decide) (by decide) ?_
        exact k) ?_
       refine jaw X0 hx Bd (by simp) hPf (by decide) (by decide) (dd 20 rfl) ?_
       rw [e0]
       exact ⟨(by unfold jcE; repeat' split <;> first | rfl | contradiction), N0, rfl⟩
      ·
       refine ja (A := oW p e below s₁ (jbi m 35 (oi pw) (oi pn) (oi pa) (oi pb) (oi pc) [(.int 0)])) (fun t k => by
        refine XS.icmpYes X0.here hx rfl (pc0 := 27) (pc' := 34) rfl (dd 16 rfl) rfl (feq hc27_6).2 (by decide) (by decide) ?_
        refine XS.iconst X0.here hx rfl (dd 19 rfl) ?_
        exact k) ?_
       refine jaw X0 hx Bd (by simp) hPf (by decide) (by decide) (dd 20 rfl) ?_
       rw [e0]
       exact ⟨(by unfold jcE; repeat' split <;> first | rfl | contradiction), N0, rfl⟩
     ·
      refine ja (A := oW p e below s₁ (jbi m 35 (oi pw) (oi pn) (oi pa) (oi pb) (oi pc) [(.int 0)])) (fun t k => by
       refine XS.icmpYes X0.here hx rfl (pc0 := 21) (pc' := 34) rfl (dd 13 rfl) rfl (flt hc21_5).2.2.2 (by decide) (by decide) ?_
       refine XS.iconst X0.here hx rfl (dd 19 rfl) ?_
       exact k) ?_
      refine jaw X0 hx Bd (by simp) hPf (by decide) (by decide) (dd 20 rfl) ?_
      rw [e0]
      exact ⟨(by unfold jcE; repeat' split <;> first | rfl | contradiction), N0, rfl⟩
   ·
    refine ja (A := oW p e below s₁ (jbi m 35 (oi pw) (oi pn) (oi pa) (oi pb) (oi pc) [(.int 0)])) (fun t k => by
     refine XS.icmpYes X0.here hx rfl (pc0 := 11) (pc' := 19) rfl (dd 7 rfl) rfl (flt hc11_3).2.2.2 (by decide) (by decide) ?_
     show oW p e below s₁ (jbi m 19 (oi pw) (oi pn) (oi pa) (oi pb) (oi pc) []) _
     refine XS.iloadN X0.here hx rfl (dd 11 rfl) rfl ?_
     refine XS.iconst X0.here hx rfl (dd 12 rfl) ?_
     refine XS.icmpYes X0.here hx rfl (pc0 := 21) (pc' := 34) rfl (dd 13 rfl) rfl (flt (jbI.2 hc11_3)).2.2.2 (by decide) (by decide) ?_
     refine XS.iconst X0.here hx rfl (dd 19 rfl) ?_
     exact k) ?_
    refine jaw X0 hx Bd (by simp) hPf (by decide) (by decide) (dd 20 rfl) ?_
    rw [e0]
    exact ⟨(by unfold jcE; repeat' split <;> first | rfl | contradiction), N0, rfl⟩
 ·
  refine ja (A := oW p e below s₁ (jbi m 35 (oi pw) (oi pn) (oi pa) (oi pb) (oi pc) [(.int 0)])) (fun t k => by
   refine XS.ifYes X0.here hx rfl (pc0 := 1) (pc' := 9) rfl (dd 1 rfl) rfl ((if0 _ _).trans (flt hc1_1).2.2.2) (by decide) (by decide) ?_
   show oW p e below s₁ (jbi m 9 (oi pw) (oi pn) (oi pa) (oi pb) (oi pc) []) _
   refine XS.iloadN X0.here hx rfl (dd 5 rfl) rfl ?_
   refine XS.iconst X0.here hx rfl (dd 6 rfl) ?_
   refine XS.icmpYes X0.here hx rfl (pc0 := 11) (pc' := 19) rfl (dd 7 rfl) rfl (flt (jbI.1 hc1_1)).2.2.2 (by decide) (by decide) ?_
   refine XS.iloadN X0.here hx rfl (dd 11 rfl) rfl ?_
   refine XS.iconst X0.here hx rfl (dd 12 rfl) ?_
   show oW p e below s₁ (jbi m 21 (oi pw) (oi pn) (oi pa) (oi pb) (oi pc) [(.int 2), (.int pn)]) _
   refine XS.icmpYes X0.here hx rfl (pc0 := 21) (pc' := 34) rfl (dd 13 rfl) rfl (flt (jbI.2 (jbI.1 hc1_1))).2.2.2 (by decide) (by decide) ?_
   refine XS.iconst X0.here hx rfl (dd 19 rfl) ?_
   exact k) ?_
  refine jaw X0 hx Bd (by simp) hPf (by decide) (by decide) (dd 20 rfl) ?_
  rw [e0]
  exact ⟨(by unfold jcE; repeat' split <;> first | rfl | contradiction), N0, rfl⟩
theorem jkI : ∀ k ∈ [(1 : Int32), 2, 3], ∀ n ∈ [0, 1, 2, 3], ∀ a ∈ [(0 : Int32), 1, 2], ∀ b ∈ [(0 : Int32), 1, 2], ∀ c ∈ [(0 : Int32), 1, 2], a < k → b < k → c < k → (∀ i ∈ [0, 1, 2], i < n → ¬ ((jak ((jG (jw (je k + 1) (List.take n [a, b, c]) n) (je k)).take (je k)) (List.take n [a, b, c]) i).getD ((List.take n [a, b, c]).getD i 0).toNatClampNeg 0) < 0 ∧ ((jak ((jG (jw (je k + 1) (List.take n [a, b, c]) n) (je k)).take (je k)) (List.take n [a, b, c]) i).getD ((List.take n [a, b, c]).getD i 0).toNatClampNeg 0) < Int32.ofNat n) ∧ ∀ w ∈ [(0 : Int32), 1, 2], w < k → jbn k (List.take n [a, b, c]) w = jcE w (Int32.ofNat n) a b c := by decide +kernel
theorem jgl {w : Int32} (h : jaf w) : w ∈ [(0 : Int32), 1, 2] := by rcases h with rfl | rfl | rfl <;> decide
theorem jlq {k a b c : Int32} {n : Nat} (hk : jaM k) (hn : n ≤ 3) (ha : jaf a ∧ a < k) (hb : jaf b ∧ b < k) (hc : jaf c ∧ c < k) : (∀ i, i < n → ¬ ((jak ((jG (jw (je k + 1) (List.take n [a, b, c]) n) (je k)).take (je k)) (List.take n [a, b, c]) i).getD ((List.take n [a, b, c]).getD i 0).toNatClampNeg 0) < 0 ∧ ((jak ((jG (jw (je k + 1) (List.take n [a, b, c]) n) (je k)).take (je k)) (List.take n [a, b, c]) i).getD ((List.take n [a, b, c]).getD i 0).toNatClampNeg 0) < Int32.ofNat n) ∧ ∀ w, jaf w → w < k → jbn k (List.take n [a, b, c]) w = jcE w (Int32.ofNat n) a b c := by
 have q := jkI k (by rcases hk with rfl | rfl | rfl <;> decide) n (by simp; omega) a (jgl ha.1) b (jgl hb.1) c (jgl hc.1) ha.2 hb.2 hc.2
 exact ⟨fun i hi => q.1 i (by simp; omega) hi, fun w h hl => q.2 w (jgl h) hl⟩
theorem jkV {k a b c : Int32} {n : Nat} (hn : n ≤ 3) (ha : jaf a ∧ a < k) (hb : jaf b ∧ b < k) (hc : jaf c ∧ c < k) : (List.take n [a, b, c]).length = n ∧ ∀ i, i < n → jaf ((List.take n [a, b, c]).getD i 0) ∧ (List.take n [a, b, c]).getD i 0 < k := by
 match n, hn with
 | 0, _ => exact ⟨rfl, fun i h => absurd h (Nat.not_lt_zero _)⟩
 | 1, _ => exact ⟨rfl, fun i h => match i, h with | 0, _ => ha | j + 1, h => absurd h (by omega)⟩
 | 2, _ => exact ⟨rfl, fun i h => match i, h with | 0, _ => ha | 1, _ => hb | j + 2, h => absurd h (by omega)⟩
 | 3, _ => exact ⟨rfl, fun i h => match i, h with | 0, _ => ha | 1, _ => hb | 2, _ => hc | j + 3, h => absurd h (by omega)⟩
theorem jca {a m : Int32} (hm : m.toBitVec.msb = false) : ¬ (a &&& m) < 0 := by
 rw [Int32.lt_iff_toInt_lt]
 have e : (a &&& m).toBitVec.msb = false := by rw [Int32.toBitVec_and, BitVec.msb_and, hm, Bool.and_false]
 have q : (a &&& m).toInt = ((a &&& m).toBitVec.toNat : Int) := by rw [← Int32.toInt_toBitVec, BitVec.toInt_eq_toNat_of_msb e]
 rw [q]; exact Int.not_lt.mpr (Int.natCast_nonneg _)
theorem jcJ {a k : Int32} (ha : ¬ a < 0) (hk : jaM k) : jaf (a % k) ∧ a % k < k := by
 have h1 : 0 ≤ a.toInt := by rw [Int32.lt_iff_toInt_lt] at ha; exact Int.not_lt.mp ha
 have e : (a % k).toInt = a.toInt % k.toInt := by rw [Int32.toInt_mod, Int.tmod_eq_emod_of_nonneg h1]
 have kz : (1 : Int32).toInt = 1 ∧ (2 : Int32).toInt = 2 ∧ (3 : Int32).toInt = 3 ∧ (0 : Int32).toInt = 0 := by decide
 have hz : 0 < k.toInt ∧ k.toInt ≤ 3 := by rcases hk with rfl | rfl | rfl <;> decide
 have l0 := Int.emod_nonneg a.toInt (b := k.toInt) (by omega)
 have l1 := Int.emod_lt_of_pos a.toInt hz.1
 refine ⟨?_, by rw [Int32.lt_iff_toInt_lt, e]; exact l1⟩
 rw [← e] at l0 l1
 rcases (by omega : (a % k).toInt = 0 ∨ (a % k).toInt = 1 ∨ (a % k).toInt = 2) with q | q | q
 · exact Or.inl (Int32.toInt_inj.mp (q.trans kz.2.2.2.symm))
 · exact Or.inr (Or.inl (Int32.toInt_inj.mp (q.trans kz.1.symm)))
 · exact Or.inr (Or.inr (Int32.toInt_inj.mp (q.trans kz.2.1.symm)))
theorem jlH {a : Int32} (ha : ¬ a < 0) : jaM ((1 : Int32) + a % (3 : Int32)) := by
 rcases (jcJ ha (Or.inr (Or.inr rfl))).1 with q | q | q <;> rw [q]
 · exact Or.inl rfl
 · exact Or.inr (Or.inl rfl)
 · exact Or.inr (Or.inr rfl)
theorem jdN {k : Int32} (hk : jaM k) : ¬ k = 0 := by rcases hk with rfl | rfl | rfl <;> decide
theorem jkJ (a : Int32) : a &&& 3 = 0 ∨ a &&& 3 = 1 ∨ a &&& 3 = 2 ∨ a &&& 3 = 3 := by
 have h : (a &&& 3).toBitVec.toNat ≤ 3 := by rw [Int32.toBitVec_and, BitVec.toNat_and]; exact Nat.and_le_right
 have j : ∀ n : Int32, (a &&& 3).toBitVec.toNat = n.toBitVec.toNat → a &&& 3 = n := fun n q => Int32.toBitVec_inj.mp (BitVec.eq_of_toNat_eq q)
 rcases (by omega : (a &&& 3).toBitVec.toNat = 0 ∨ (a &&& 3).toBitVec.toNat = 1 ∨ (a &&& 3).toBitVec.toNat = 2 ∨ (a &&& 3).toBitVec.toNat = 3) with q | q | q | q
 · exact Or.inl (j _ q)
 · exact Or.inr (Or.inl (j _ q))
 · exact Or.inr (Or.inr (Or.inl (j _ q)))
 · exact Or.inr (Or.inr (Or.inr (j _ q)))
theorem jlI {k : Int32} (hk : jaM k) (h : ¬ (1 : Int32) < k) : k = 1 := by rcases hk with rfl | rfl | rfl <;> revert h <;> decide
theorem jlJ {k : Int32} (hk : jaM k) (h : (1 : Int32) < k) (h2 : ¬ (2 : Int32) < k) : k = 2 := by rcases hk with rfl | rfl | rfl <;> revert h h2 <;> decide
theorem jlK {k : Int32} (hk : jaM k) (h2 : (2 : Int32) < k) : k = 3 := by rcases hk with rfl | rfl | rfl <;> revert h2 <;> decide
theorem jkW {k : Int32} (hk : jaM k) : (0 : Int32) < k := by rcases hk with rfl | rfl | rfl <;> decide
theorem jgm {n : Int32} (h : n = 0 ∨ n = 1 ∨ n = 2 ∨ n = 3) : (¬ (0 : Int32) < n → n = Int32.ofNat 0) ∧ ((0 : Int32) < n → ¬ (1 : Int32) < n → n = Int32.ofNat 1) ∧ ((1 : Int32) < n → ¬ (2 : Int32) < n → n = Int32.ofNat 2) ∧ ((2 : Int32) < n → n = Int32.ofNat 3) := by rcases h with rfl | rfl | rfl | rfl <;> decide
end Own
def jfE (Z : State) (h : Heap) (ca de em : Addr) (kd : ClassId) (cz : Int32) : Prop := jcd Z h ca ∧ Sta Z h S2' S26' "Z" (.int cz) ∧ Sta Z h S3' S50' S4' (.ref de) ∧ Sta Z h S29' "EMPTY" S9' (.ref em) ∧ Exa Z h em S0' ∧ Sta Z h S10' S55' "Z" (.int 1) ∧ Arv Z h de kd (.object S0') (0 : Int32) [] .null
theorem jfE.keep {Z : State} {h h' : Heap} {ca de em : Addr} {kd : ClassId} {cz : Int32} (B : jfE Z h ca de em kd cz) (K : Keep h h' []) : jfE Z h' ca de em kd cz := by
 obtain ⟨a, b, c, d, e, f, g⟩ := B
 exact ⟨a.keep K all0, jC b K all0, jC c K all0, jC d K all0, e.keep K, jC f K all0, g.keep K nin0⟩
theorem jlL {Z : State} {h : Heap} {a : Addr} {C n d : String} {v : Value} (F : Fld Z h a C n d v) : jbO h a := by
 obtain ⟨cell, -, -, -, -, h1, -, -, h4, -⟩ := F
 exact ⟨cell, h1, h4⟩
abbrev jj (m : MethodId) (pc : Nat) (a0 a1 a2 a3 a4 a5 a6 a7 a8 a9 a10 a11 a12 a13 a14 a15 a16 : Slot) (S : List Value) : JFrame := mkF m pc #[a0, a1, a2, a3, a4, a5, a6, a7, a8, a9, a10, a11, a12, a13, a14, a15, a16] S
theorem jI : parseMethodDescriptor "(Ljava/lang/String;Ljava/util/List;Ljava/util/List;Ljava/util/List;)V" = some ⟨[(.object "java/lang/String"), (.object "java/util/List"), (.object "java/util/List"), (.object "java/util/List")], none⟩ := by decide +kernel
theorem jcb : parseMethodDescriptor "(I)Z" = some ⟨[.int], some .boolean⟩ := by decide +kernel
theorem jbm : parseMethodDescriptor "(IIIII)Z" = some ⟨[.int, .int, .int, .int, .int], some .boolean⟩ := by decide +kernel
theorem jm : parseMethodDescriptor "(I)Ljava/lang/String;" = some ⟨[.int], some (.object "java/lang/String")⟩ := by decide +kernel
theorem jF : parseMethodDescriptor "(Ljava/lang/String;Ljava/lang/String;)V" = some ⟨[(.object "java/lang/String"), (.object "java/lang/String")], none⟩ := by decide +kernel
theorem jhW (m : MethodId) (x0 : Int32) (x1 : Int32) (x2 : Int32) (x3 : Int32) : entryFrame m #[(.int x0), (.int x1), (.int x2), (.int x3)] maxLocals = mkF m 0 #[(oi x0), (oi x1), (oi x2), (oi x3), ou, ou, ou, ou, ou, ou, ou, ou, ou, ou, ou, ou, ou] [] := by first | (simp [entryFrame, mkF, argsToLocals, Value.category, maxLocals]; done) | rfl
def jcU (Z : State) (p0 : Int32) (p1 : Int32) (p2 : Int32) (p3 : Int32) (ca de em : Addr) (kd : ClassId) (cz : Int32) (ma mu mr mo : Addr) (h0 : Heap) (n0 : Nat) (v : Option Value) (h : Heap) (L : List Loc) : Prop := v = some (.int 1) ∧ Fr n0 L
theorem jhX (l : Launch) (Z : State) (a0 : Array Value) (hw : ∀ d ∈ tables_1, d.before a0 Z = true) (ws : List Jvm.Cond) (p0 : Int32) (p1 : Int32) (p2 : Int32) (p3 : Int32) (ca de em : Addr) (kd : ClassId) (cz : Int32) (ma mu mr mo : Addr) (h0 : Heap) (n0 : Nat) (Z0 : n0 ≤ h0.size) (HB0 : jfE Z h0 ca de em kd cz) (hcz : ¬ cz = (0 : Int32)) (hma : Mir Z S3' ma) (hmu : Mir Z S34' mu) (hmr : Mir Z S45' mr) (hmo : Mir Z S4' mo) :
  MetFree l x (head1 (Jvm.Cond.code x code maxLocals ret :: ws) room_1) (fun a U => a = #[(.int p0), (.int p1), (.int p2), (.int p3)] ∧ Z.Warmed39 U.vm ∧ U.heap = h0) (fun _ _ _ _ _ => True) (fun _ U o U' => ∃ v L, o = .returned v ∧ jcU Z p0 p1 p2 p3 ca de em kd cz ma mu mr mo h0 n0 v U'.heap L ∧ ReturnedEndW U o U' L room_1.cells room_1.slots) := by
 refine MetFree.of_bodySF (plainFor_of_name ju) hisR ?_
 intro p e s m args below meth c s₁ Bd hml0 hP hKq_
 obtain ⟨rfl, hZ, hh⟩ := hP
 have hx := Bd.exec
 have hby := Bd.bytes
 have hml : c.maxLocals = 17 := hml0
 have hown : s.vm.findClass S54' = some m.cls := findClass_of_methodNamed Bd.named
 have hnm := (name_of_methodNamed Bd.named Bd.method).1
 have ow0 := ow hw 0 rfl
 have ow1 := ow hw 1 rfl
 have ow2 := ow hw 2 rfl
 have ow3 := ow hw 3 rfl
 have ow4 := ow hw 4 rfl
 have ow5 := ow hw 5 rfl
 have ow6 := ow hw 6 rfl
 have ow23 := ow hw 23 rfl
 have ow26 := ow hw 26 rfl
 have ow27 := ow hw 27 rfl
 have ow28 := ow hw 28 rfl
 have ow29 := ow hw 29 rfl
 have ow30 := ow hw 30 rfl
 have ow31 := ow hw 31 rfl
 have ow32 := ow hw 32 rfl
 have ow33 := ow hw 33 rfl
 have ow34 := ow hw 34 rfl
 have ow55 := ow hw 55 rfl
 have ow56 := ow hw 56 rfl
 have ow57 := ow hw 57 rfl
 have ow58 := ow hw 58 rfl
 have ow59 := ow hw 59 rfl
 have ow63 := ow hw 63 rfl
 have ow85 := ow hw 85 rfl
 have ow86 := ow hw 86 rfl
 have ow87 := ow hw 87 rfl
 have ow88 := ow hw 88 rfl
 have ow89 := ow hw 89 rfl
 have ow90 := ow hw 90 rfl
 have ow91 := ow hw 91 rfl
 have ow107 := ow hw 107 rfl
 have ow109 := ow hw 109 rfl
 have ow110 := ow hw 110 rfl
 have ow111 := ow hw 111 rfl
 have ow112 := ow hw 112 rfl
 have ow113 := ow hw 113 rfl
 have ow114 := ow hw 114 rfl
 have ow115 := ow hw 115 rfl
 have ow116 := ow hw 116 rfl
 have ow135 := ow hw 135 rfl
 have ow159 := ow hw 159 rfl
 have ow164 := ow hw 164 rfl
 have ow251 := ow hw 251 rfl
 have ow409 := ow hw 409 rfl
 have ow411 := ow hw 411 rfl
 have ow506 := ow hw 506 rfl
 have ow508 := ow hw 508 rfl
 have ow583 := ow hw 583 rfl
 have ow584 := ow hw 584 rfl
 have ow585 := ow hw 585 rfl
 have ow586 := ow hw 586 rfl
 have ow587 := ow hw 587 rfl
 have ow588 := ow hw 588 rfl
 have ow589 := ow hw 589 rfl
 have ow590 := ow hw 590 rfl
 have ow591 := ow hw 591 rfl
 have X0 : Stand p l e room_1 (s.setVm s.vm) m #[(.int p0), (.int p1), (.int p2), (.int p3)] below meth c s₁ [] 0 0 := Stand.of_body Bd
 have e0 : s₁.heap = h0 := by rw [← hh, Bd.state]; rfl
 have N0 := Fr.nil n0
 have pre0 : ∀ t, Steps p.tables e below (s₁.setTop (mkF m 0 #[(oi p0), (oi p1), (oi p2), (oi p3), ou, ou, ou, ou, ou, ou, ou, ou, ou, ou, ou, ou, ou] [])) t → Steps p.tables e below (s₁.setTop (entryFrame m #[(.int p0), (.int p1), (.int p2), (.int p3)] maxLocals)) t := fun t k => castTop (jhW m p0 p1 p2 p3) k
 refine ja pre0 ?_
 refine jcV ?_
 intro Pf hPf
 have hZ : Z.Warmed39 (s.setVm s.vm).vm := hZ
 have hown : (s.setVm s.vm).vm.findClass S54' = some m.cls := hown
 have Sn0 : s.Since s.vm 0 := (State.WarmedH.refl s).since 0
 have hk0 : 0 ≤ h0.size := Nat.zero_le _
 refine ja (A := oW p e below s₁ (jj m 8 (oi p0) (oi p1) (oi p2) (oi p3) ou ou ou ou ou ou ou ou ou ou ou ou ou [(.int ((1 : Int32) + ((p0 &&& (2147483647 : Int32)) % (3 : Int32))))])) (fun t k => by
  refine XS.iconst X0.here hx rfl (hb hby at_0) ?_
  refine XS.iloadN X0.here hx rfl (hb hby at_1) rfl ?_
  refine X0.ldcInt hx hown (mvT hZ ow0) (g := (jj m 2 (oi p0) (oi p1) (oi p2) (oi p3) ou ou ou ou ou ou ou ou ou ou ou ou ou [(.int p0), (.int 1)])) rfl (hb hby at_2) _ ?_
  refine XS.iand X0.here hx rfl (hb hby at_4) rfl ?_
  refine XS.iconst X0.here hx rfl (hb hby at_5) ?_
  show oW p e below s₁ (jj m 6 (oi p0) (oi p1) (oi p2) (oi p3) ou ou ou ou ou ou ou ou ou ou ou ou ou [(.int 3), (.int (p0 &&& (2147483647 : Int32))), (.int 1)]) _
  refine iremM X0 hx rfl (hb hby at_6) rfl (by decide) ?_
  refine XS.iadd X0.here hx rfl (hb hby at_7) rfl ?_
  exact k) ?_
 obtain ⟨kk, h_kk⟩ : ∃ z, z = ((1 : Int32) + ((p0 &&& (2147483647 : Int32)) % (3 : Int32))) := ⟨_, rfl⟩
 rw [← h_kk]
 have hk : jaM kk := by rw [h_kk]; exact jlH (jca rfl)
 refine ja (A := oW p e below s₁ (jj m 13 (oi p0) (oi p1) (oi p2) (oi p3) (oi kk) ou ou ou ou ou ou ou ou ou ou ou ou [(.int (p1 &&& (3 : Int32)))])) (fun t k => by
  refine XS.istore X0.here hx rfl (hb hby at_8) rfl (l' := #[(oi p0), (oi p1), (oi p2), (oi p3), (oi kk), ou, ou, ou, ou, ou, ou, ou, ou, ou, ou, ou, ou]) rfl ?_
  refine XS.iloadN X0.here hx rfl (hb hby at_10) rfl ?_
  refine XS.iconst X0.here hx rfl (hb hby at_11) ?_
  show oW p e below s₁ (jj m 12 (oi p0) (oi p1) (oi p2) (oi p3) (oi kk) ou ou ou ou ou ou ou ou ou ou ou ou [(.int 3), (.int p1)]) _
  refine XS.iand X0.here hx rfl (hb hby at_12) rfl ?_
  exact k) ?_
 obtain ⟨nI, h_nI⟩ : ∃ z, z = (p1 &&& (3 : Int32)) := ⟨_, rfl⟩
 rw [← h_nI]
 have hnI : nI = 0 ∨ nI = 1 ∨ nI = 2 ∨ nI = 3 := by rw [h_nI]; exact jkJ _
 refine ja (A := oW p e below s₁ (jj m 23 (oi p0) (oi p1) (oi p2) (oi p3) (oi kk) (oi nI) ou ou ou ou ou ou ou ou ou ou ou [(.int ((p2 &&& (255 : Int32)) % kk))])) (fun t k => by
  refine XS.istore X0.here hx rfl (hb hby at_13) rfl (l' := #[(oi p0), (oi p1), (oi p2), (oi p3), (oi kk), (oi nI), ou, ou, ou, ou, ou, ou, ou, ou, ou, ou, ou]) rfl ?_
  refine XS.iloadN X0.here hx rfl (hb hby at_15) rfl ?_
  refine XS.sipush X0.here hx rfl (hb hby at_16) ?_
  refine XS.iand X0.here hx rfl (hb hby at_19) rfl ?_
  show oW p e below s₁ (jj m 20 (oi p0) (oi p1) (oi p2) (oi p3) (oi kk) (oi nI) ou ou ou ou ou ou ou ou ou ou ou [(.int (p2 &&& (255 : Int32)))]) _
  refine XS.iload X0.here hx rfl (hb hby at_20) rfl ?_
  refine iremM X0 hx rfl (hb hby at_22) rfl (jdN hk) ?_
  exact k) ?_
 obtain ⟨s0, h_s0⟩ : ∃ z, z = ((p2 &&& (255 : Int32)) % kk) := ⟨_, rfl⟩
 rw [← h_s0]
 have hs0 : jaf s0 ∧ s0 < kk := by rw [h_s0]; exact jcJ (jca rfl) hk
 refine ja (A := oW p e below s₁ (jj m 36 (oi p0) (oi p1) (oi p2) (oi p3) (oi kk) (oi nI) (oi s0) ou ou ou ou ou ou ou ou ou ou [(.int ((((p2.toUInt32 >>> ((8 : Int32) &&& 31).toUInt32).toInt32) &&& (255 : Int32)) % kk))])) (fun t k => by
  refine XS.istore X0.here hx rfl (hb hby at_23) rfl (l' := #[(oi p0), (oi p1), (oi p2), (oi p3), (oi kk), (oi nI), (oi s0), ou, ou, ou, ou, ou, ou, ou, ou, ou, ou]) rfl ?_
  refine XS.iloadN X0.here hx rfl (hb hby at_25) rfl ?_
  refine XS.bipush X0.here hx rfl (hb hby at_26) ?_
  show oW p e below s₁ (jj m 28 (oi p0) (oi p1) (oi p2) (oi p3) (oi kk) (oi nI) (oi s0) ou ou ou ou ou ou ou ou ou ou [(.int 8), (.int p2)]) _
  refine XS.iushr X0.here hx rfl (hb hby at_28) rfl ?_
  refine XS.sipush X0.here hx rfl (hb hby at_29) ?_
  refine XS.iand X0.here hx rfl (hb hby at_32) rfl ?_
  refine XS.iload X0.here hx rfl (hb hby at_33) rfl ?_
  refine iremM X0 hx rfl (hb hby at_35) rfl (jdN hk) ?_
  exact k) ?_
 obtain ⟨s1, h_s1⟩ : ∃ z, z = ((((p2.toUInt32 >>> ((8 : Int32) &&& 31).toUInt32).toInt32) &&& (255 : Int32)) % kk) := ⟨_, rfl⟩
 rw [← h_s1]
 have hs1 : jaf s1 ∧ s1 < kk := by rw [h_s1]; exact jcJ (jca rfl) hk
 refine ja (A := oW p e below s₁ (jj m 49 (oi p0) (oi p1) (oi p2) (oi p3) (oi kk) (oi nI) (oi s0) (oi s1) ou ou ou ou ou ou ou ou ou [(.int ((((p2.toUInt32 >>> ((16 : Int32) &&& 31).toUInt32).toInt32) &&& (255 : Int32)) % kk))])) (fun t k => by
  refine XS.istore X0.here hx rfl (hb hby at_36) rfl (l' := #[(oi p0), (oi p1), (oi p2), (oi p3), (oi kk), (oi nI), (oi s0), (oi s1), ou, ou, ou, ou, ou, ou, ou, ou, ou]) rfl ?_
  refine XS.iloadN X0.here hx rfl (hb hby at_38) rfl ?_
  refine XS.bipush X0.here hx rfl (hb hby at_39) ?_
  refine XS.iushr X0.here hx rfl (hb hby at_41) rfl ?_
  refine XS.sipush X0.here hx rfl (hb hby at_42) ?_
  show oW p e below s₁ (jj m 45 (oi p0) (oi p1) (oi p2) (oi p3) (oi kk) (oi nI) (oi s0) (oi s1) ou ou ou ou ou ou ou ou ou [(.int 255), (.int ((p2.toUInt32 >>> ((16 : Int32) &&& 31).toUInt32).toInt32))]) _
  refine XS.iand X0.here hx rfl (hb hby at_45) rfl ?_
  refine XS.iload X0.here hx rfl (hb hby at_46) rfl ?_
  refine iremM X0 hx rfl (hb hby at_48) rfl (jdN hk) ?_
  exact k) ?_
 obtain ⟨s2, h_s2⟩ : ∃ z, z = ((((p2.toUInt32 >>> ((16 : Int32) &&& 31).toUInt32).toInt32) &&& (255 : Int32)) % kk) := ⟨_, rfl⟩
 rw [← h_s2]
 have hs2 : jaf s2 ∧ s2 < kk := by rw [h_s2]; exact jcJ (jca rfl) hk
 refine ja (A := oW p e below s₁ (jj m 59 (oi p0) (oi p1) (oi p2) (oi p3) (oi kk) (oi nI) (oi s0) (oi s1) (oi s2) ou ou ou ou ou ou ou ou [(.int ((p3 &&& (255 : Int32)) % kk))])) (fun t k => by
  refine XS.istore X0.here hx rfl (hb hby at_49) rfl (l' := #[(oi p0), (oi p1), (oi p2), (oi p3), (oi kk), (oi nI), (oi s0), (oi s1), (oi s2), ou, ou, ou, ou, ou, ou, ou, ou]) rfl ?_
  refine XS.iloadN X0.here hx rfl (hb hby at_51) rfl ?_
  show oW p e below s₁ (jj m 52 (oi p0) (oi p1) (oi p2) (oi p3) (oi kk) (oi nI) (oi s0) (oi s1) (oi s2) ou ou ou ou ou ou ou ou [(.int p3)]) _
  refine XS.sipush X0.here hx rfl (hb hby at_52) ?_
  refine XS.iand X0.here hx rfl (hb hby at_55) rfl ?_
  refine XS.iload X0.here hx rfl (hb hby at_56) rfl ?_
  refine iremM X0 hx rfl (hb hby at_58) rfl (jdN hk) ?_
  exact k) ?_
 obtain ⟨d0, h_d0⟩ : ∃ z, z = ((p3 &&& (255 : Int32)) % kk) := ⟨_, rfl⟩
 rw [← h_d0]
 have hd0 : jaf d0 ∧ d0 < kk := by rw [h_d0]; exact jcJ (jca rfl) hk
 refine ja (A := oW p e below s₁ (jj m 72 (oi p0) (oi p1) (oi p2) (oi p3) (oi kk) (oi nI) (oi s0) (oi s1) (oi s2) (oi d0) ou ou ou ou ou ou ou [(.int ((((p3.toUInt32 >>> ((8 : Int32) &&& 31).toUInt32).toInt32) &&& (255 : Int32)) % kk))])) (fun t k => by
  refine XS.istore X0.here hx rfl (hb hby at_59) rfl (l' := #[(oi p0), (oi p1), (oi p2), (oi p3), (oi kk), (oi nI), (oi s0), (oi s1), (oi s2), (oi d0), ou, ou, ou, ou, ou, ou, ou]) rfl ?_
  show oW p e below s₁ (jj m 61 (oi p0) (oi p1) (oi p2) (oi p3) (oi kk) (oi nI) (oi s0) (oi s1) (oi s2) (oi d0) ou ou ou ou ou ou ou []) _
  refine XS.iloadN X0.here hx rfl (hb hby at_61) rfl ?_
  refine XS.bipush X0.here hx rfl (hb hby at_62) ?_
  refine XS.iushr X0.here hx rfl (hb hby at_64) rfl ?_
  refine XS.sipush X0.here hx rfl (hb hby at_65) ?_
  refine XS.iand X0.here hx rfl (hb hby at_68) rfl ?_
  show oW p e below s₁ (jj m 69 (oi p0) (oi p1) (oi p2) (oi p3) (oi kk) (oi nI) (oi s0) (oi s1) (oi s2) (oi d0) ou ou ou ou ou ou ou [(.int (((p3.toUInt32 >>> ((8 : Int32) &&& 31).toUInt32).toInt32) &&& (255 : Int32)))]) _
  refine XS.iload X0.here hx rfl (hb hby at_69) rfl ?_
  refine iremM X0 hx rfl (hb hby at_71) rfl (jdN hk) ?_
  exact k) ?_
 obtain ⟨d1, h_d1⟩ : ∃ z, z = ((((p3.toUInt32 >>> ((8 : Int32) &&& 31).toUInt32).toInt32) &&& (255 : Int32)) % kk) := ⟨_, rfl⟩
 rw [← h_d1]
 have hd1 : jaf d1 ∧ d1 < kk := by rw [h_d1]; exact jcJ (jca rfl) hk
 refine ja (A := oW p e below s₁ (jj m 85 (oi p0) (oi p1) (oi p2) (oi p3) (oi kk) (oi nI) (oi s0) (oi s1) (oi s2) (oi d0) (oi d1) ou ou ou ou ou ou [(.int ((((p3.toUInt32 >>> ((16 : Int32) &&& 31).toUInt32).toInt32) &&& (255 : Int32)) % kk))])) (fun t k => by
  refine XS.istore X0.here hx rfl (hb hby at_72) rfl (l' := #[(oi p0), (oi p1), (oi p2), (oi p3), (oi kk), (oi nI), (oi s0), (oi s1), (oi s2), (oi d0), (oi d1), ou, ou, ou, ou, ou, ou]) rfl ?_
  refine XS.iloadN X0.here hx rfl (hb hby at_74) rfl ?_
  refine XS.bipush X0.here hx rfl (hb hby at_75) ?_
  show oW p e below s₁ (jj m 77 (oi p0) (oi p1) (oi p2) (oi p3) (oi kk) (oi nI) (oi s0) (oi s1) (oi s2) (oi d0) (oi d1) ou ou ou ou ou ou [(.int 16), (.int p3)]) _
  refine XS.iushr X0.here hx rfl (hb hby at_77) rfl ?_
  refine XS.sipush X0.here hx rfl (hb hby at_78) ?_
  refine XS.iand X0.here hx rfl (hb hby at_81) rfl ?_
  refine XS.iload X0.here hx rfl (hb hby at_82) rfl ?_
  refine iremM X0 hx rfl (hb hby at_84) rfl (jdN hk) ?_
  exact k) ?_
 obtain ⟨d2, h_d2⟩ : ∃ z, z = ((((p3.toUInt32 >>> ((16 : Int32) &&& 31).toUInt32).toInt32) &&& (255 : Int32)) % kk) := ⟨_, rfl⟩
 rw [← h_d2]
 have hd2 : jaf d2 ∧ d2 < kk := by rw [h_d2]; exact jcJ (jca rfl) hk
 refine ja (A := oW p e below s₁ (jj m 87 (oi p0) (oi p1) (oi p2) (oi p3) (oi kk) (oi nI) (oi s0) (oi s1) (oi s2) (oi d0) (oi d1) (oi d2) ou ou ou ou ou [])) (fun t k => by
  refine XS.istore X0.here hx rfl (hb hby at_85) rfl (l' := #[(oi p0), (oi p1), (oi p2), (oi p3), (oi kk), (oi nI), (oi s0), (oi s1), (oi s2), (oi d0), (oi d1), (oi d2), ou, ou, ou, ou, ou]) rfl ?_
  exact k) ?_
 have lbLB : ∀ (vLB : Vm) (kLB : Nat) (ww pp pea : Addr) (nn : Nat) (TLB : State) (locsLB : List Loc) (hLB : Heap) (XLB : Stand p l e room_1 (s.setVm vLB) m #[(.int p0), (.int p1), (.int p2), (.int p3)] below meth c TLB locsLB 60 500) (eLB : TLB.heap = hLB) (NLB : Fr n0 locsLB) (ZLB : n0 ≤ hLB.size) (hZLB : Z.Warmed39 (s.setVm vLB).vm) (hownLB : (s.setVm vLB).vm.findClass S54' = some m.cls) (SnLB : s.Since vLB kLB) (hkLB : kLB ≤ hLB.size) (HBb : jfE Z hLB ca de em kd cz) (HWb : jbP Z n0 hLB ww kk) (Epb : Exa Z hLB pp S3') (Fsb : Fld Z hLB pp S3' S8' "I" (.int (Int32.ofNat nn))) (Feb : Fld Z hLB pp S3' S15' S4' (.ref pea)) (PLb : jbg Z n0 hLB pea nn (List.take nn [s0, s1, s2]) (List.take nn [d0, d1, d2])) (hn3 : nn ≤ 3) (hnn : nI = Int32.ofNat nn), ∃ t o, oW p e below TLB (jj m 233 (oi p0) (oi p1) (oi p2) (oi p3) (oi kk) (oi nI) (oi s0) (oi s1) (oi s2) (oi d0) (oi d1) (oi d2) (oR ww) (oR pp) ou ou ou []) t ∧ Pf t o := by
  intro vLB kLB ww pp pea nn TLB locsLB hLB XLB eLB NLB ZLB hZLB hownLB SnLB hkLB HBb HWb Epb Fsb Feb PLb hn3 hnn
  obtain ⟨hsl, hos⟩ := jkV hn3 hs0 hs1 hs2
  obtain ⟨hdl, hod⟩ := jkV hn3 hd0 hd1 hd2
  obtain ⟨hbd, hfi⟩ := jlq hk hn3 hs0 hs1 hs2
  obtain ⟨ss, hss⟩ : ∃ z, z = (List.take nn [s0, s1, s2]) := ⟨_, rfl⟩
  obtain ⟨ds, hds⟩ : ∃ z, z = (List.take nn [d0, d1, d2]) := ⟨_, rfl⟩
  rw [← hss] at PLb hsl hos hbd hfi
  rw [← hds] at PLb hdl hod
  rw [← hnn] at hfi
  obtain ⟨T1, h1, X1, e1, E1, A1, D1, -, st1⟩ := newO XLB hx hZLB hownLB ow1 ow2 ow3 eLB (g := (jj m 233 (oi p0) (oi p1) (oi p2) (oi p3) (oi kk) (oi nI) (oi s0) (oi s1) (oi s2) (oi d0) (oi d1) (oi d2) (oR ww) (oR pp) ou ou ou [])) rfl (hb hby at_233) (by decide) (by decide)
  obtain ⟨b1, g1⟩ : ∃ z, z = hLB.size := ⟨_, rfl⟩
  rw [← g1] at A1 D1 st1
  refine ja st1 ?_
  have g_b1 : n0 ≤ b1 := Nat.le_trans ZLB (Nat.le_of_eq g1.symm)
  have hk1 : kLB ≤ h1.size := Nat.le_trans hkLB E1.1
  have Z1 : n0 ≤ h1.size := Nat.le_trans ZLB E1.1
  have sz_b1 : hLB.size ≤ b1 := Nat.le_trans (Keep.refl hLB []).1 (Nat.le_of_eq g1.symm)
  have K1 : Keep hLB h1 [] := (Keep.refl hLB []).ext E1
  have F1_modCount : Fld Z h1 b1 S19' S12' "I" (.int 0) := D1 (Or.inl ow23) (ty := .int) (by decide)
  have F1_elementData : Fld Z h1 b1 S3' S15' S4' .null := D1 (Or.inl ow26) (ty := (.array (.object S0'))) (by decide)
  have F1_size : Fld Z h1 b1 S3' S8' "I" (.int 0) := D1 (Or.inl ow63) (ty := .int) (by decide)
  refine ja (A := oW p e below T1 (jj m 237 (oi p0) (oi p1) (oi p2) (oi p3) (oi kk) (oi nI) (oi s0) (oi s1) (oi s2) (oi d0) (oi d1) (oi d2) (oR ww) (oR pp) ou ou ou [(.ref b1), (.ref b1)])) (fun t k => by
   refine XS.dup X1.here hx rfl (hb hby at_236) rfl rfl ?_
   exact k) ?_
  obtain ⟨_, T2, L2, X2, hQ2, st2⟩ := jaF X1 hx hZLB hownLB ow4 ow5 ow6 ow3 (jct l Z a0 hw [] b1 de h1 n0 Z1 A1 F1_modCount g_b1 F1_elementData F1_size (HBb.keep K1).2.2.1) e1 rfl (by decide) (g := (jj m 237 (oi p0) (oi p1) (oi p2) (oi p3) (oi kk) (oi nI) (oi s0) (oi s1) (oi s2) (oi d0) (oi d1) (oi d2) (oR ww) (oR pp) ou ou ou [(.ref b1), (.ref b1)])) rfl (by rw [hml]; rfl) (rest := [(.ref b1)]) rfl (lenOf jS rfl) rfl (W := 1) (Nat.le_of_eq rfl) (hb hby at_237) (by decide)
  obtain ⟨rfl, N2q, K2q, p2_0, p2_1, p2_2⟩ := hQ2
  have N2 := Fr.app NLB N2q
  have hk2 : kLB ≤ T2.heap.size := Nat.le_trans hk1 K2q.1
  have Z2 : n0 ≤ T2.heap.size := Nat.le_trans Z1 K2q.1
  have K2 : Keep hLB T2.heap [] := K1.trans K2q (allS (Or.inr sz_b1) all0)
  refine ja st2 ?_
  refine ja (A := oW p e below T2 (jj m 242 (oi p0) (oi p1) (oi p2) (oi p3) (oi kk) (oi nI) (oi s0) (oi s1) (oi s2) (oi d0) (oi d1) (oi d2) (oR ww) (oR pp) (oR b1) ou ou [])) (fun t k => by
   refine XS.astore X2.here hx rfl (hb hby at_240) rfl rfl (l' := #[(oi p0), (oi p1), (oi p2), (oi p3), (oi kk), (oi nI), (oi s0), (oi s1), (oi s2), (oi d0), (oi d1), (oi d2), (oR ww), (oR pp), (oR b1), ou, ou]) rfl ?_
   exact k) ?_
  obtain ⟨T3, h3, X3, e3, E3, A3, D3, -, st3⟩ := newO X2 hx hZLB hownLB ow111 ow112 ow113 rfl (g := (jj m 242 (oi p0) (oi p1) (oi p2) (oi p3) (oi kk) (oi nI) (oi s0) (oi s1) (oi s2) (oi d0) (oi d1) (oi d2) (oR ww) (oR pp) (oR b1) ou ou [])) rfl (hb hby at_242) (by decide) (by decide)
  obtain ⟨b3, g3⟩ : ∃ z, z = T2.heap.size := ⟨_, rfl⟩
  rw [← g3] at A3 D3 st3
  refine ja st3 ?_
  have g_b3 : n0 ≤ b3 := Nat.le_trans Z2 (Nat.le_of_eq g3.symm)
  have hk3 : kLB ≤ h3.size := Nat.le_trans hk2 E3.1
  have Z3 : n0 ≤ h3.size := Nat.le_trans Z2 E3.1
  have sz_b3 : hLB.size ≤ b3 := Nat.le_trans K2.1 (Nat.le_of_eq g3.symm)
  have K3 : Keep hLB h3 [] := K2.ext E3
  have F3_wireNumbers : Fld Z h3 b3 S7' S42' S43' .null := D3 (Or.inr ow135) (ty := (.object "java/util/Map")) (by decide)
  have F3_pipDestinationWires : Fld Z h3 b3 S7' S48' S49' .null := D3 (Or.inr ow159) (ty := (.object S10')) (by decide)
  have F3_name : Fld Z h3 b3 S7' "name" S25' .null := D3 (Or.inr ow164) (ty := (.object S2')) (by decide)
  have F3_wires : Fld Z h3 b3 S7' "wires" S14' .null := D3 (Or.inr ow251) (ty := (.object S24')) (by decide)
  have F3_pipSources : Fld Z h3 b3 S7' S36' "[I" .null := D3 (Or.inr ow409) (ty := (.array .int)) (by decide)
  have F3_pipDestinations : Fld Z h3 b3 S7' S53' "[I" .null := D3 (Or.inr ow411) (ty := (.array .int)) (by decide)
  have F3_pipsFromStarts : Fld Z h3 b3 S7' S41' "[I" .null := D3 (Or.inr ow506) (ty := (.array .int)) (by decide)
  have F3_pipsFrom : Fld Z h3 b3 S7' "pipsFrom" "[I" .null := D3 (Or.inr ow508) (ty := (.array .int)) (by decide)
  have F3_sites : Fld Z h3 b3 S7' "sites" S14' .null := D3 (Or.inr ow583) (ty := (.object S24')) (by decide)
  refine ja (A := oW p e below T3 (jj m 248 (oi p0) (oi p1) (oi p2) (oi p3) (oi kk) (oi nI) (oi s0) (oi s1) (oi s2) (oi d0) (oi d1) (oi d2) (oR ww) (oR pp) (oR b1) ou ou [(.int 84), (.ref b3), (.ref b3)])) (fun t k => by
   refine XS.dup X3.here hx rfl (hb hby at_245) rfl rfl ?_
   refine XS.bipush X3.here hx rfl (hb hby at_246) ?_
   exact k) ?_
  obtain ⟨_, T4, L4, X4, hQ4, st4⟩ := jH X3 hx hZLB hownLB ow31 ow32 ow34 ow33 (jdB l Z a0 hw [] (84 : Int32) cz h3 n0 Z3 (HBb.keep K3).2.1 hcz (Or.inr (Or.inr (Or.inr rfl)))) e3 (by decide) (g := (jj m 248 (oi p0) (oi p1) (oi p2) (oi p3) (oi kk) (oi nI) (oi s0) (oi s1) (oi s2) (oi d0) (oi d1) (oi d2) (oR ww) (oR pp) (oR b1) ou ou [(.int 84), (.ref b3), (.ref b3)])) rfl (by rw [hml]; rfl) (rest := [(.ref b3), (.ref b3)]) rfl (lenOf jap rfl) rfl (W := 2) (Nat.le_of_eq rfl) (hb hby at_248) (by decide)
  obtain ⟨s4a, rfl, N4q, K4q, s_s4a, p4_0⟩ := hQ4
  have N4 := Fr.app N2 N4q
  have g_s4a : n0 ≤ s4a := Nat.le_trans Z3 s_s4a
  have sz_s4a : hLB.size ≤ s4a := Nat.le_trans K3.1 s_s4a
  have hk4 : kLB ≤ T4.heap.size := Nat.le_trans hk3 K4q.1
  have Z4 : n0 ≤ T4.heap.size := Nat.le_trans Z3 K4q.1
  have K4 : Keep hLB T4.heap [] := K3.trans K4q all0
  refine ja st4 ?_
  refine ja (A := oW p e below T4 (jj m 257 (oi p0) (oi p1) (oi p2) (oi p3) (oi kk) (oi nI) (oi s0) (oi s1) (oi s2) (oi d0) (oi d1) (oi d2) (oR ww) (oR pp) (oR b1) ou ou [(.ref b1), (.ref pp), (.ref ww), (.ref s4a), (.ref b3), (.ref b3)])) (fun t k => by
   refine XS.aload X4.here hx rfl (hb hby at_251) rfl rfl ?_
   refine XS.aload X4.here hx rfl (hb hby at_253) rfl rfl ?_
   refine XS.aload X4.here hx rfl (hb hby at_255) rfl rfl ?_
   exact k) ?_
  obtain ⟨_, _, ⟨T5, L5, k5, n5⟩, -, X5q, Sn5q, gr5, ⟨Lc5, hQ5, l5, y5, z5⟩, st5⟩ := X4.specialBackS hx (y := M20') rfl hownLB (mvT hZLB ow114) (mvT hZLB ow115) (mvT hZLB ow116) (by decide) (backOfS (W := 1) (jhV l Z a0 hw [] b3 s4a ww pp b1 kk nn ss ds pea ca de em cz (0 : Int32) ma mu mr mo T4.heap n0 Z4 (A3.keep K4q) g_b3 (jlL (F3_name.keep K4q nin0)) p4_0.2.1 (HWb.keep K4 all0) hk ⟨(Epb.keep K4), (Fsb.keep K4 nin0), (Feb.keep K4 nin0), (PLb.keep K4 all0), (((A1.keep K2q).ext E3).keep K4q), ((p2_2.ext E3).keep K4q nin0), ((p2_0.ext E3).keep K4q nin0), (HBb.keep K4).1, (HBb.keep K4).2.1, (HBb.keep K4).2.2.1, (HBb.keep K4).2.2.2.1, (HBb.keep K4).2.2.2.2.1, (HBb.keep K4).2.2.2.2.2.1⟩ hcz hn3 hsl hdl hos hod hbd hma hmu hmr hmo) hZLB ow116 ow113 (by decide) (by decide)) (g := (jj m 257 (oi p0) (oi p1) (oi p2) (oi p3) (oi kk) (oi nI) (oi s0) (oi s1) (oi s2) (oi d0) (oi d1) (oi d2) (oR ww) (oR pp) (oR b1) ou ou [(.ref b1), (.ref pp), (.ref ww), (.ref s4a), (.ref b3), (.ref b3)])) rfl (by rw [hml]; rfl) (Steps.refl _) (a := b3) (argsL := [(.ref s4a), (.ref ww), (.ref pp), (.ref b1)]) (rest := [(.ref b3)]) (lenOf jI rfl) rfl (by show 2 * 0 + _ ≤ _; exact Nat.le_of_eq rfl) (hb hby at_257) (fun _ _ => ⟨rfl, rfl, (by decide : 64 + 23 ≤ _), (by decide : 517 + 129 ≤ _)⟩)
  dsimp only [Pt.U, Pt.locs, Pt.cells, Pt.slots] at X5q l5 y5 z5 st5 hQ5
  subst l5 y5 z5
  dsimp only [Pt.U] at Sn5q gr5
  obtain ⟨X5, Sn5, hZ5, hown5⟩ := rebS SnLB hk4 X5q Sn5q gr5 hZLB hownLB
  obtain ⟨rfl, N5q, p5_0, sa, ks, p5_1, p5_2⟩ := hQ5
  have N5 := Fr.app N4 N5q
  have Z5 : n0 ≤ T5.heap.size := Nat.le_trans g_b3 (Nat.le_of_lt p5_0.lt)
  refine ja (fun _ k => st5.trans k) ?_
  have hk5c : T5.heap.size ≤ T5.heap.size := Nat.le_refl _
  refine ja (A := oW p e below T5 (jj m 265 (oi p0) (oi p1) (oi p2) (oi p3) (oi kk) (oi nI) (oi s0) (oi s1) (oi s2) (oi d0) (oi d1) (oi d2) (oR ww) (oR pp) (oR b1) (oR b3) ou [(.int 0), (.ref b3)])) (fun t k => by
   refine XS.astore X5.here hx rfl (hb hby at_260) rfl rfl (l' := #[(oi p0), (oi p1), (oi p2), (oi p3), (oi kk), (oi nI), (oi s0), (oi s1), (oi s2), (oi d0), (oi d1), (oi d2), (oR ww), (oR pp), (oR b1), (oR b3), ou]) rfl ?_
   refine XS.aload X5.here hx rfl (hb hby at_262) rfl rfl ?_
   show oW p e below T5 (jj m 264 (oi p0) (oi p1) (oi p2) (oi p3) (oi kk) (oi nI) (oi s0) (oi s1) (oi s2) (oi d0) (oi d1) (oi d2) (oR ww) (oR pp) (oR b1) (oR b3) ou [(.ref b3)]) _
   refine XS.iconst X5.here hx rfl (hb hby at_264) ?_
   exact k) ?_
  obtain ⟨_, T6, L6, X6, hQ6, st6⟩ := jax X5 hx hZ5 hown5 ow584 ow585 ow587 ow586 ow588 ow113 (jdb l Z a0 hw [] b3 (0 : Int32) kk ss sa ks T5.heap n0 Z5 hk (Or.inl rfl) (jkW hk) p5_1 p5_2) rfl (notFace_of_selects (args := #[]) (mvT hZ5 ow587)) p5_0 (by decide) (g := (jj m 265 (oi p0) (oi p1) (oi p2) (oi p3) (oi kk) (oi nI) (oi s0) (oi s1) (oi s2) (oi d0) (oi d1) (oi d2) (oR ww) (oR pp) (oR b1) (oR b3) ou [(.int 0), (.ref b3)])) rfl (by rw [hml]; rfl) (rest := []) rfl (lenOf jcb rfl) rfl (W := 0) (Nat.le_of_eq rfl) (hb hby at_265) (by decide)
  obtain ⟨rfl, N6q, eh6⟩ := hQ6
  have N6 := Fr.app N5 N6q
  refine ja st6 ?_
  refine ja (A := oW p e below T6 (jj m 277 (oi p0) (oi p1) (oi p2) (oi p3) (oi kk) (oi nI) (oi s0) (oi s1) (oi s2) (oi d0) (oi d1) (oi d2) (oR ww) (oR pp) (oR b1) (oR b3) ou [(.int s2), (.int s1), (.int s0), (.int nI), (.int 0), (.int (jbn kk ss (0 : Int32)))])) (fun t k => by
   refine XS.iconst X6.here hx rfl (hb hby at_268) ?_
   refine XS.iload X6.here hx rfl (hb hby at_269) rfl ?_
   refine XS.iload X6.here hx rfl (hb hby at_271) rfl ?_
   refine XS.iload X6.here hx rfl (hb hby at_273) rfl ?_
   show oW p e below T6 (jj m 275 (oi p0) (oi p1) (oi p2) (oi p3) (oi kk) (oi nI) (oi s0) (oi s1) (oi s2) (oi d0) (oi d1) (oi d2) (oR ww) (oR pp) (oR b1) (oR b3) ou [(.int s1), (.int s0), (.int nI), (.int 0), (.int (jbn kk ss (0 : Int32)))]) _
   refine XS.iload X6.here hx rfl (hb hby at_275) rfl ?_
   exact k) ?_
  obtain ⟨_, T7, L7, X7, hQ7, st7⟩ := jH X6 hx hZ5 hown5 ow589 ow590 ow591 ow29 (jdc l Z a0 hw [] (0 : Int32) nI s0 s1 s2 T5.heap n0 Z5 ) eh6 (by decide) (g := (jj m 277 (oi p0) (oi p1) (oi p2) (oi p3) (oi kk) (oi nI) (oi s0) (oi s1) (oi s2) (oi d0) (oi d1) (oi d2) (oR ww) (oR pp) (oR b1) (oR b3) ou [(.int s2), (.int s1), (.int s0), (.int nI), (.int 0), (.int (jbn kk ss (0 : Int32)))])) rfl (by rw [hml]; rfl) (rest := [(.int (jbn kk ss (0 : Int32)))]) rfl (lenOf jbm rfl) rfl (W := 1) (Nat.le_of_eq rfl) (hb hby at_277) (by decide)
  obtain ⟨rfl, N7q, eh7⟩ := hQ7
  have N7 := Fr.app N6 N7q
  refine ja st7 ?_
  refine ja (A := oW p e below T7 (jj m 293 (oi p0) (oi p1) (oi p2) (oi p3) (oi kk) (oi nI) (oi s0) (oi s1) (oi s2) (oi d0) (oi d1) (oi d2) (oR ww) (oR pp) (oR b1) (oR b3) (oi 1) [(.int 1), (.int kk)])) (fun t k => by
   refine XS.icmpNo X7.here hx rfl (hb hby at_280) rfl (teq (hfi _ (Or.inl rfl) (jkW hk))).2 ?_
   refine XS.iconst X7.here hx rfl (hb hby at_283) ?_
   refine XS.goto X7.here hx rfl (pc0 := 284) (pc' := 288) rfl (hb hby at_284) (by decide) (by decide) ?_
   refine XS.istore X7.here hx rfl (hb hby at_288) rfl (l' := #[(oi p0), (oi p1), (oi p2), (oi p3), (oi kk), (oi nI), (oi s0), (oi s1), (oi s2), (oi d0), (oi d1), (oi d2), (oR ww), (oR pp), (oR b1), (oR b3), (oi 1)]) rfl ?_
   show oW p e below T7 (jj m 290 (oi p0) (oi p1) (oi p2) (oi p3) (oi kk) (oi nI) (oi s0) (oi s1) (oi s2) (oi d0) (oi d1) (oi d2) (oR ww) (oR pp) (oR b1) (oR b3) (oi 1) []) _
   refine XS.iload X7.here hx rfl (hb hby at_290) rfl ?_
   refine XS.iconst X7.here hx rfl (hb hby at_292) ?_
   exact k) ?_
  by_cases hc293_8 : (1 : Int32) < kk
  ·
   refine ja (A := oW p e below T7 (jj m 304 (oi p0) (oi p1) (oi p2) (oi p3) (oi kk) (oi nI) (oi s0) (oi s1) (oi s2) (oi d0) (oi d1) (oi d2) (oR ww) (oR pp) (oR b1) (oR b3) (oi 1) [(.int 1), (.ref b3)])) (fun t k => by
    refine XS.icmpNo X7.here hx rfl (hb hby at_293) rfl (tlt hc293_8).2.2.2 ?_
    refine XS.iload X7.here hx rfl (hb hby at_296) rfl ?_
    refine XS.ifNo X7.here hx rfl (hb hby at_298) rfl ((if0 _ _).trans (feq (by decide : ¬ ((1 : Int32) = (0 : Int32)))).1) ?_
    show oW p e below T7 (jj m 301 (oi p0) (oi p1) (oi p2) (oi p3) (oi kk) (oi nI) (oi s0) (oi s1) (oi s2) (oi d0) (oi d1) (oi d2) (oR ww) (oR pp) (oR b1) (oR b3) (oi 1) []) _
    refine XS.aload X7.here hx rfl (hb hby at_301) rfl rfl ?_
    refine XS.iconst X7.here hx rfl (hb hby at_303) ?_
    exact k) ?_
   obtain ⟨_, T9, L9, X9, hQ9, st9⟩ := jax X7 hx hZ5 hown5 ow584 ow585 ow587 ow586 ow588 ow113 (jdb l Z a0 hw [] b3 (1 : Int32) kk ss sa ks T5.heap n0 Z5 hk (Or.inr (Or.inl rfl)) hc293_8 p5_1 p5_2) eh7 (notFace_of_selects (args := #[]) (mvT hZ5 ow587)) p5_0 (by decide) (g := (jj m 304 (oi p0) (oi p1) (oi p2) (oi p3) (oi kk) (oi nI) (oi s0) (oi s1) (oi s2) (oi d0) (oi d1) (oi d2) (oR ww) (oR pp) (oR b1) (oR b3) (oi 1) [(.int 1), (.ref b3)])) rfl (by rw [hml]; rfl) (rest := []) rfl (lenOf jcb rfl) rfl (W := 0) (Nat.le_of_eq rfl) (hb hby at_304) (by decide)
   obtain ⟨rfl, N9q, eh9⟩ := hQ9
   have N9 := Fr.app N7 N9q
   refine ja st9 ?_
   refine ja (A := oW p e below T9 (jj m 316 (oi p0) (oi p1) (oi p2) (oi p3) (oi kk) (oi nI) (oi s0) (oi s1) (oi s2) (oi d0) (oi d1) (oi d2) (oR ww) (oR pp) (oR b1) (oR b3) (oi 1) [(.int s2), (.int s1), (.int s0), (.int nI), (.int 1), (.int (jbn kk ss (1 : Int32)))])) (fun t k => by
    refine XS.iconst X9.here hx rfl (hb hby at_307) ?_
    refine XS.iload X9.here hx rfl (hb hby at_308) rfl ?_
    refine XS.iload X9.here hx rfl (hb hby at_310) rfl ?_
    show oW p e below T9 (jj m 312 (oi p0) (oi p1) (oi p2) (oi p3) (oi kk) (oi nI) (oi s0) (oi s1) (oi s2) (oi d0) (oi d1) (oi d2) (oR ww) (oR pp) (oR b1) (oR b3) (oi 1) [(.int s0), (.int nI), (.int 1), (.int (jbn kk ss (1 : Int32)))]) _
    refine XS.iload X9.here hx rfl (hb hby at_312) rfl ?_
    refine XS.iload X9.here hx rfl (hb hby at_314) rfl ?_
    exact k) ?_
   obtain ⟨_, T10, L10, X10, hQ10, st10⟩ := jH X9 hx hZ5 hown5 ow589 ow590 ow591 ow29 (jdc l Z a0 hw [] (1 : Int32) nI s0 s1 s2 T5.heap n0 Z5 ) eh9 (by decide) (g := (jj m 316 (oi p0) (oi p1) (oi p2) (oi p3) (oi kk) (oi nI) (oi s0) (oi s1) (oi s2) (oi d0) (oi d1) (oi d2) (oR ww) (oR pp) (oR b1) (oR b3) (oi 1) [(.int s2), (.int s1), (.int s0), (.int nI), (.int 1), (.int (jbn kk ss (1 : Int32)))])) rfl (by rw [hml]; rfl) (rest := [(.int (jbn kk ss (1 : Int32)))]) rfl (lenOf jbm rfl) rfl (W := 1) (Nat.le_of_eq rfl) (hb hby at_316) (by decide)
   obtain ⟨rfl, N10q, eh10⟩ := hQ10
   have N10 := Fr.app N9 N10q
   refine ja st10 ?_
   refine ja (A := oW p e below T10 (jj m 332 (oi p0) (oi p1) (oi p2) (oi p3) (oi kk) (oi nI) (oi s0) (oi s1) (oi s2) (oi d0) (oi d1) (oi d2) (oR ww) (oR pp) (oR b1) (oR b3) (oi 1) [(.int 2), (.int kk)])) (fun t k => by
    refine XS.icmpNo X10.here hx rfl (hb hby at_319) rfl (teq (hfi _ (Or.inr (Or.inl rfl)) hc293_8)).2 ?_
    refine XS.iconst X10.here hx rfl (hb hby at_322) ?_
    refine XS.goto X10.here hx rfl (pc0 := 323) (pc' := 327) rfl (hb hby at_323) (by decide) (by decide) ?_
    show oW p e below T10 (jj m 327 (oi p0) (oi p1) (oi p2) (oi p3) (oi kk) (oi nI) (oi s0) (oi s1) (oi s2) (oi d0) (oi d1) (oi d2) (oR ww) (oR pp) (oR b1) (oR b3) (oi 1) [(.int 1)]) _
    refine XS.istore X10.here hx rfl (hb hby at_327) rfl (l' := #[(oi p0), (oi p1), (oi p2), (oi p3), (oi kk), (oi nI), (oi s0), (oi s1), (oi s2), (oi d0), (oi d1), (oi d2), (oR ww), (oR pp), (oR b1), (oR b3), (oi 1)]) rfl ?_
    refine XS.iload X10.here hx rfl (hb hby at_329) rfl ?_
    refine XS.iconst X10.here hx rfl (hb hby at_331) ?_
    exact k) ?_
   by_cases hc332_11 : (2 : Int32) < kk
   ·
    refine ja (A := oW p e below T10 (jj m 343 (oi p0) (oi p1) (oi p2) (oi p3) (oi kk) (oi nI) (oi s0) (oi s1) (oi s2) (oi d0) (oi d1) (oi d2) (oR ww) (oR pp) (oR b1) (oR b3) (oi 1) [(.int 2), (.ref b3)])) (fun t k => by
     refine XS.icmpNo X10.here hx rfl (hb hby at_332) rfl (tlt hc332_11).2.2.2 ?_
     refine XS.iload X10.here hx rfl (hb hby at_335) rfl ?_
     show oW p e below T10 (jj m 337 (oi p0) (oi p1) (oi p2) (oi p3) (oi kk) (oi nI) (oi s0) (oi s1) (oi s2) (oi d0) (oi d1) (oi d2) (oR ww) (oR pp) (oR b1) (oR b3) (oi 1) [(.int 1)]) _
     refine XS.ifNo X10.here hx rfl (hb hby at_337) rfl ((if0 _ _).trans (feq (by decide : ¬ ((1 : Int32) = (0 : Int32)))).1) ?_
     refine XS.aload X10.here hx rfl (hb hby at_340) rfl rfl ?_
     refine XS.iconst X10.here hx rfl (hb hby at_342) ?_
     exact k) ?_
    obtain ⟨_, T12, L12, X12, hQ12, st12⟩ := jax X10 hx hZ5 hown5 ow584 ow585 ow587 ow586 ow588 ow113 (jdb l Z a0 hw [] b3 (2 : Int32) kk ss sa ks T5.heap n0 Z5 hk (Or.inr (Or.inr rfl)) hc332_11 p5_1 p5_2) eh10 (notFace_of_selects (args := #[]) (mvT hZ5 ow587)) p5_0 (by decide) (g := (jj m 343 (oi p0) (oi p1) (oi p2) (oi p3) (oi kk) (oi nI) (oi s0) (oi s1) (oi s2) (oi d0) (oi d1) (oi d2) (oR ww) (oR pp) (oR b1) (oR b3) (oi 1) [(.int 2), (.ref b3)])) rfl (by rw [hml]; rfl) (rest := []) rfl (lenOf jcb rfl) rfl (W := 0) (Nat.le_of_eq rfl) (hb hby at_343) (by decide)
    obtain ⟨rfl, N12q, eh12⟩ := hQ12
    have N12 := Fr.app N10 N12q
    refine ja st12 ?_
    refine ja (A := oW p e below T12 (jj m 355 (oi p0) (oi p1) (oi p2) (oi p3) (oi kk) (oi nI) (oi s0) (oi s1) (oi s2) (oi d0) (oi d1) (oi d2) (oR ww) (oR pp) (oR b1) (oR b3) (oi 1) [(.int s2), (.int s1), (.int s0), (.int nI), (.int 2), (.int (jbn kk ss (2 : Int32)))])) (fun t k => by
     refine XS.iconst X12.here hx rfl (hb hby at_346) ?_
     refine XS.iload X12.here hx rfl (hb hby at_347) rfl ?_
     show oW p e below T12 (jj m 349 (oi p0) (oi p1) (oi p2) (oi p3) (oi kk) (oi nI) (oi s0) (oi s1) (oi s2) (oi d0) (oi d1) (oi d2) (oR ww) (oR pp) (oR b1) (oR b3) (oi 1) [(.int nI), (.int 2), (.int (jbn kk ss (2 : Int32)))]) _
     refine XS.iload X12.here hx rfl (hb hby at_349) rfl ?_
     refine XS.iload X12.here hx rfl (hb hby at_351) rfl ?_
     refine XS.iload X12.here hx rfl (hb hby at_353) rfl ?_
     exact k) ?_
    obtain ⟨_, T13, L13, X13, hQ13, st13⟩ := jH X12 hx hZ5 hown5 ow589 ow590 ow591 ow29 (jdc l Z a0 hw [] (2 : Int32) nI s0 s1 s2 T5.heap n0 Z5 ) eh12 (by decide) (g := (jj m 355 (oi p0) (oi p1) (oi p2) (oi p3) (oi kk) (oi nI) (oi s0) (oi s1) (oi s2) (oi d0) (oi d1) (oi d2) (oR ww) (oR pp) (oR b1) (oR b3) (oi 1) [(.int s2), (.int s1), (.int s0), (.int nI), (.int 2), (.int (jbn kk ss (2 : Int32)))])) rfl (by rw [hml]; rfl) (rest := [(.int (jbn kk ss (2 : Int32)))]) rfl (lenOf jbm rfl) rfl (W := 1) (Nat.le_of_eq rfl) (hb hby at_355) (by decide)
    obtain ⟨rfl, N13q, eh13⟩ := hQ13
    have N13 := Fr.app N12 N13q
    refine ja st13 ?_
    refine ja (A := oW p e below T13 (jj m 370 (oi p0) (oi p1) (oi p2) (oi p3) (oi kk) (oi nI) (oi s0) (oi s1) (oi s2) (oi d0) (oi d1) (oi d2) (oR ww) (oR pp) (oR b1) (oR b3) (oi 1) [(.int 1)])) (fun t k => by
     refine XS.icmpNo X13.here hx rfl (hb hby at_358) rfl (teq (hfi _ (Or.inr (Or.inr rfl)) hc332_11)).2 ?_
     refine XS.iconst X13.here hx rfl (hb hby at_361) ?_
     show oW p e below T13 (jj m 362 (oi p0) (oi p1) (oi p2) (oi p3) (oi kk) (oi nI) (oi s0) (oi s1) (oi s2) (oi d0) (oi d1) (oi d2) (oR ww) (oR pp) (oR b1) (oR b3) (oi 1) [(.int 1)]) _
     refine XS.goto X13.here hx rfl (pc0 := 362) (pc' := 366) rfl (hb hby at_362) (by decide) (by decide) ?_
     refine XS.istore X13.here hx rfl (hb hby at_366) rfl (l' := #[(oi p0), (oi p1), (oi p2), (oi p3), (oi kk), (oi nI), (oi s0), (oi s1), (oi s2), (oi d0), (oi d1), (oi d2), (oR ww), (oR pp), (oR b1), (oR b3), (oi 1)]) rfl ?_
     refine XS.iload X13.here hx rfl (hb hby at_368) rfl ?_
     exact k) ?_
    obtain ⟨fs, hr, hrun, hended, hRW⟩ := X13.leaveW Sn5 (by rw [eh13]; exact hk5c) (v := some (.int (nar .boolean (1 : Int32)))) (fun h => by rw [Bd.returns] at h; cases h)
    refine ⟨_, _, retN X13 hx (t := .boolean) Bd.returns (by simp) (hb hby at_370) hr, hPf _ _ ⟨hrun, hended, _, _, rfl, ?_, hRW.1, hRW.2.1, hRW.2.2.1, hRW.2.2.2.mono (by decide) (by decide)⟩⟩
    show jcU Z p0 p1 p2 p3 ca de em kd cz ma mu mr mo h0 n0 _ T13.heap _
    rw [eh13]
    exact ⟨rfl, N13⟩
   ·
    refine ja (A := oW p e below T10 (jj m 370 (oi p0) (oi p1) (oi p2) (oi p3) (oi kk) (oi nI) (oi s0) (oi s1) (oi s2) (oi d0) (oi d1) (oi d2) (oR ww) (oR pp) (oR b1) (oR b3) (oi 1) [(.int 1)])) (fun t k => by
     refine XS.icmpYes X10.here hx rfl (pc0 := 332) (pc' := 368) rfl (hb hby at_332) rfl (flt hc332_11).2.2.2 (by decide) (by decide) ?_
     refine XS.iload X10.here hx rfl (hb hby at_368) rfl ?_
     exact k) ?_
    obtain ⟨fs, hr, hrun, hended, hRW⟩ := X10.leaveW Sn5 (by rw [eh10]; exact hk5c) (v := some (.int (nar .boolean (1 : Int32)))) (fun h => by rw [Bd.returns] at h; cases h)
    refine ⟨_, _, retN X10 hx (t := .boolean) Bd.returns (by simp) (hb hby at_370) hr, hPf _ _ ⟨hrun, hended, _, _, rfl, ?_, hRW.1, hRW.2.1, hRW.2.2.1, hRW.2.2.2.mono (by decide) (by decide)⟩⟩
    show jcU Z p0 p1 p2 p3 ca de em kd cz ma mu mr mo h0 n0 _ T10.heap _
    rw [eh10]
    exact ⟨rfl, N10⟩
  ·
   refine ja (A := oW p e below T7 (jj m 370 (oi p0) (oi p1) (oi p2) (oi p3) (oi kk) (oi nI) (oi s0) (oi s1) (oi s2) (oi d0) (oi d1) (oi d2) (oR ww) (oR pp) (oR b1) (oR b3) (oi 1) [(.int 1)])) (fun t k => by
    refine XS.icmpYes X7.here hx rfl (pc0 := 293) (pc' := 329) rfl (hb hby at_293) rfl (flt hc293_8).2.2.2 (by decide) (by decide) ?_
    refine XS.iload X7.here hx rfl (hb hby at_329) rfl ?_
    refine XS.iconst X7.here hx rfl (hb hby at_331) ?_
    refine XS.icmpYes X7.here hx rfl (pc0 := 332) (pc' := 368) rfl (hb hby at_332) rfl (flt (jbI.2 hc293_8)).2.2.2 (by decide) (by decide) ?_
    refine XS.iload X7.here hx rfl (hb hby at_368) rfl ?_
    exact k) ?_
   obtain ⟨fs, hr, hrun, hended, hRW⟩ := X7.leaveW Sn5 (by rw [eh7]; exact hk5c) (v := some (.int (nar .boolean (1 : Int32)))) (fun h => by rw [Bd.returns] at h; cases h)
   refine ⟨_, _, retN X7 hx (t := .boolean) Bd.returns (by simp) (hb hby at_370) hr, hPf _ _ ⟨hrun, hended, _, _, rfl, ?_, hRW.1, hRW.2.1, hRW.2.2.1, hRW.2.2.2.mono (by decide) (by decide)⟩⟩
   show jcU Z p0 p1 p2 p3 ca de em kd cz ma mu mr mo h0 n0 _ T7.heap _
   rw [eh7]
   exact ⟨rfl, N7⟩
 have lbLA : ∀ (vLA : Vm) (kLA : Nat) (ww : Addr) (TLA : State) (locsLA : List Loc) (hLA : Heap) (XLA : Stand p l e room_1 (s.setVm vLA) m #[(.int p0), (.int p1), (.int p2), (.int p3)] below meth c TLA locsLA 20 150) (eLA : TLA.heap = hLA) (NLA : Fr n0 locsLA) (ZLA : n0 ≤ hLA.size) (hZLA : Z.Warmed39 (s.setVm vLA).vm) (hownLA : (s.setVm vLA).vm.findClass S54' = some m.cls) (SnLA : s.Since vLA kLA) (hkLA : kLA ≤ hLA.size) (HBa : jfE Z hLA ca de em kd cz) (HWa : jbP Z n0 hLA ww kk), ∃ t o, oW p e below TLA (jj m 138 (oi p0) (oi p1) (oi p2) (oi p3) (oi kk) (oi nI) (oi s0) (oi s1) (oi s2) (oi d0) (oi d1) (oi d2) (oR ww) ou ou ou ou []) t ∧ Pf t o := by
  intro vLA kLA ww TLA locsLA hLA XLA eLA NLA ZLA hZLA hownLA SnLA hkLA HBa HWa
  obtain ⟨T14, h14, X14, e14, E14, A14, D14, -, st14⟩ := newO XLA hx hZLA hownLA ow1 ow2 ow3 eLA (g := (jj m 138 (oi p0) (oi p1) (oi p2) (oi p3) (oi kk) (oi nI) (oi s0) (oi s1) (oi s2) (oi d0) (oi d1) (oi d2) (oR ww) ou ou ou ou [])) rfl (hb hby at_138) (by decide) (by decide)
  obtain ⟨b14, g14⟩ : ∃ z, z = hLA.size := ⟨_, rfl⟩
  rw [← g14] at A14 D14 st14
  refine ja st14 ?_
  have g_b14 : n0 ≤ b14 := Nat.le_trans ZLA (Nat.le_of_eq g14.symm)
  have hk14 : kLA ≤ h14.size := Nat.le_trans hkLA E14.1
  have Z14 : n0 ≤ h14.size := Nat.le_trans ZLA E14.1
  have sz_b14 : hLA.size ≤ b14 := Nat.le_trans (Keep.refl hLA []).1 (Nat.le_of_eq g14.symm)
  have K14 : Keep hLA h14 [] := (Keep.refl hLA []).ext E14
  have F14_modCount : Fld Z h14 b14 S19' S12' "I" (.int 0) := D14 (Or.inl ow23) (ty := .int) (by decide)
  have F14_elementData : Fld Z h14 b14 S3' S15' S4' .null := D14 (Or.inl ow26) (ty := (.array (.object S0'))) (by decide)
  have F14_size : Fld Z h14 b14 S3' S8' "I" (.int 0) := D14 (Or.inl ow63) (ty := .int) (by decide)
  refine ja (A := oW p e below T14 (jj m 142 (oi p0) (oi p1) (oi p2) (oi p3) (oi kk) (oi nI) (oi s0) (oi s1) (oi s2) (oi d0) (oi d1) (oi d2) (oR ww) ou ou ou ou [(.ref b14), (.ref b14)])) (fun t k => by
   refine XS.dup X14.here hx rfl (hb hby at_141) rfl rfl ?_
   exact k) ?_
  obtain ⟨_, T15, L15, X15, hQ15, st15⟩ := jaF X14 hx hZLA hownLA ow4 ow5 ow6 ow3 (jct l Z a0 hw [] b14 de h14 n0 Z14 A14 F14_modCount g_b14 F14_elementData F14_size (HBa.keep K14).2.2.1) e14 rfl (by decide) (g := (jj m 142 (oi p0) (oi p1) (oi p2) (oi p3) (oi kk) (oi nI) (oi s0) (oi s1) (oi s2) (oi d0) (oi d1) (oi d2) (oR ww) ou ou ou ou [(.ref b14), (.ref b14)])) rfl (by rw [hml]; rfl) (rest := [(.ref b14)]) rfl (lenOf jS rfl) rfl (W := 1) (Nat.le_of_eq rfl) (hb hby at_142) (by decide)
  obtain ⟨rfl, N15q, K15q, p15_0, p15_1, p15_2⟩ := hQ15
  have N15 := Fr.app NLA N15q
  have hk15 : kLA ≤ T15.heap.size := Nat.le_trans hk14 K15q.1
  have Z15 : n0 ≤ T15.heap.size := Nat.le_trans Z14 K15q.1
  have K15 : Keep hLA T15.heap [] := K14.trans K15q (allS (Or.inr sz_b14) all0)
  refine ja st15 ?_
  refine ja (A := oW p e below T15 (jj m 149 (oi p0) (oi p1) (oi p2) (oi p3) (oi kk) (oi nI) (oi s0) (oi s1) (oi s2) (oi d0) (oi d1) (oi d2) (oR ww) (oR b14) ou ou ou [(.int nI)])) (fun t k => by
   refine XS.astore X15.here hx rfl (hb hby at_145) rfl rfl (l' := #[(oi p0), (oi p1), (oi p2), (oi p3), (oi kk), (oi nI), (oi s0), (oi s1), (oi s2), (oi d0), (oi d1), (oi d2), (oR ww), (oR b14), ou, ou, ou]) rfl ?_
   refine XS.iload X15.here hx rfl (hb hby at_147) rfl ?_
   exact k) ?_
  by_cases hc149_16 : (0 : Int32) < nI
  ·
   refine ja (A := oW p e below T15 (jj m 154 (oi p0) (oi p1) (oi p2) (oi p3) (oi kk) (oi nI) (oi s0) (oi s1) (oi s2) (oi d0) (oi d1) (oi d2) (oR ww) (oR b14) ou ou ou [(.ref b14)])) (fun t k => by
    refine XS.ifNo X15.here hx rfl (hb hby at_149) rfl ((if0 _ _).trans (tlt hc149_16).2.2.2) ?_
    refine XS.aload X15.here hx rfl (hb hby at_152) rfl rfl ?_
    exact k) ?_
   obtain ⟨T17, h17, X17, e17, E17, A17, D17, -, st17⟩ := newO X15 hx hZLA hownLA ow86 ow87 ow88 rfl (g := (jj m 154 (oi p0) (oi p1) (oi p2) (oi p3) (oi kk) (oi nI) (oi s0) (oi s1) (oi s2) (oi d0) (oi d1) (oi d2) (oR ww) (oR b14) ou ou ou [(.ref b14)])) rfl (hb hby at_154) (by decide) (by decide)
   obtain ⟨b17, g17⟩ : ∃ z, z = T15.heap.size := ⟨_, rfl⟩
   rw [← g17] at A17 D17 st17
   refine ja st17 ?_
   have g_b17 : n0 ≤ b17 := Nat.le_trans Z15 (Nat.le_of_eq g17.symm)
   have hk17 : kLA ≤ h17.size := Nat.le_trans hk15 E17.1
   have Z17 : n0 ≤ h17.size := Nat.le_trans Z15 E17.1
   have sz_b17 : hLA.size ≤ b17 := Nat.le_trans K15.1 (Nat.le_of_eq g17.symm)
   have K17 : Keep hLA h17 [] := K15.ext E17
   have F17_source : Fld Z h17 b17 S18' "source" S25' .null := D17 (Or.inr ow107) (ty := (.object S2')) (by decide)
   have F17_destination : Fld Z h17 b17 S18' S40' S25' .null := D17 (Or.inr ow109) (ty := (.object S2')) (by decide)
   refine ja (A := oW p e below T17 (jj m 160 (oi p0) (oi p1) (oi p2) (oi p3) (oi kk) (oi nI) (oi s0) (oi s1) (oi s2) (oi d0) (oi d1) (oi d2) (oR ww) (oR b14) ou ou ou [(.int s0), (.ref b17), (.ref b17), (.ref b14)])) (fun t k => by
    refine XS.dup X17.here hx rfl (hb hby at_157) rfl rfl ?_
    refine XS.iload X17.here hx rfl (hb hby at_158) rfl ?_
    exact k) ?_
   obtain ⟨_, T18, L18, X18, hQ18, st18⟩ := jH X17 hx hZLA hownLA ow27 ow28 ow30 ow29 (jaE l Z a0 hw [] s0 cz h17 n0 Z17 (HBa.keep K17).2.1 hcz hs0.1) e17 (by decide) (g := (jj m 160 (oi p0) (oi p1) (oi p2) (oi p3) (oi kk) (oi nI) (oi s0) (oi s1) (oi s2) (oi d0) (oi d1) (oi d2) (oR ww) (oR b14) ou ou ou [(.int s0), (.ref b17), (.ref b17), (.ref b14)])) rfl (by rw [hml]; rfl) (rest := [(.ref b17), (.ref b17), (.ref b14)]) rfl (lenOf jm rfl) rfl (W := 3) (Nat.le_of_eq rfl) (hb hby at_160) (by decide)
   obtain ⟨s18a, rfl, N18q, K18q, s_s18a, p18_0⟩ := hQ18
   have N18 := Fr.app N15 N18q
   have g_s18a : n0 ≤ s18a := Nat.le_trans Z17 s_s18a
   have sz_s18a : hLA.size ≤ s18a := Nat.le_trans K17.1 s_s18a
   have hk18 : kLA ≤ T18.heap.size := Nat.le_trans hk17 K18q.1
   have Z18 : n0 ≤ T18.heap.size := Nat.le_trans Z17 K18q.1
   have K18 : Keep hLA T18.heap [] := K17.trans K18q all0
   refine ja st18 ?_
   refine ja (A := oW p e below T18 (jj m 165 (oi p0) (oi p1) (oi p2) (oi p3) (oi kk) (oi nI) (oi s0) (oi s1) (oi s2) (oi d0) (oi d1) (oi d2) (oR ww) (oR b14) ou ou ou [(.int d0), (.ref s18a), (.ref b17), (.ref b17), (.ref b14)])) (fun t k => by
    refine XS.iload X18.here hx rfl (hb hby at_163) rfl ?_
    exact k) ?_
   obtain ⟨_, T19, L19, X19, hQ19, st19⟩ := jH X18 hx hZLA hownLA ow27 ow28 ow30 ow29 (jaE l Z a0 hw [] d0 cz T18.heap n0 Z18 (HBa.keep K18).2.1 hcz hd0.1) rfl (by decide) (g := (jj m 165 (oi p0) (oi p1) (oi p2) (oi p3) (oi kk) (oi nI) (oi s0) (oi s1) (oi s2) (oi d0) (oi d1) (oi d2) (oR ww) (oR b14) ou ou ou [(.int d0), (.ref s18a), (.ref b17), (.ref b17), (.ref b14)])) rfl (by rw [hml]; rfl) (rest := [(.ref s18a), (.ref b17), (.ref b17), (.ref b14)]) rfl (lenOf jm rfl) rfl (W := 4) (Nat.le_of_eq rfl) (hb hby at_165) (by decide)
   obtain ⟨s19a, rfl, N19q, K19q, s_s19a, p19_0⟩ := hQ19
   have N19 := Fr.app N18 N19q
   have g_s19a : n0 ≤ s19a := Nat.le_trans Z18 s_s19a
   have sz_s19a : hLA.size ≤ s19a := Nat.le_trans K18.1 s_s19a
   have hk19 : kLA ≤ T19.heap.size := Nat.le_trans hk18 K19q.1
   have Z19 : n0 ≤ T19.heap.size := Nat.le_trans Z18 K19q.1
   have K19 : Keep hLA T19.heap [] := K18.trans K19q all0
   refine ja st19 ?_
   have g21f := (F17_destination.keep K18q nin0).keep K19q nin0
   obtain ⟨_, _, ⟨T20, L20, k20, n20⟩, -, X20q, Sn20q, gr20, ⟨Lc20, hQ20, l20, y20, z20⟩, st20⟩ := X19.specialBackS hx (y := M19') rfl hownLA (mvT hZLA ow89) (mvT hZLA ow90) (mvT hZLA ow91) (by decide) (backOfS (W := 2) (jcY l Z a0 hw [] b17 s18a s19a T19.heap n0 Z19 ((A17.keep K18q).keep K19q) g_b17 ((F17_source.keep K18q nin0).keep K19q nin0) g21f) hZLA ow91 ow88 (by decide) (by decide)) (g := (jj m 168 (oi p0) (oi p1) (oi p2) (oi p3) (oi kk) (oi nI) (oi s0) (oi s1) (oi s2) (oi d0) (oi d1) (oi d2) (oR ww) (oR b14) ou ou ou [(.ref s19a), (.ref s18a), (.ref b17), (.ref b17), (.ref b14)])) rfl (by rw [hml]; rfl) (Steps.refl _) (a := b17) (argsL := [(.ref s18a), (.ref s19a)]) (rest := [(.ref b17), (.ref b14)]) (lenOf jF rfl) rfl (by show 2 * 0 + _ ≤ _; exact Nat.le_of_eq rfl) (hb hby at_168) (fun _ _ => ⟨rfl, rfl, (by decide : 26 + 4 ≤ _), (by decide : 165 + 76 ≤ _)⟩)
   dsimp only [Pt.U, Pt.locs, Pt.cells, Pt.slots] at X20q l20 y20 z20 st20 hQ20
   subst l20 y20 z20
   dsimp only [Pt.U] at Sn20q gr20
   obtain ⟨X20, Sn20, hZ20, hown20⟩ := rebS SnLA hk19 X20q Sn20q gr20 hZLA hownLA
   obtain ⟨rfl, N20q, K20q, p20_0, p20_1⟩ := hQ20
   have N20 := Fr.app N19 N20q
   have nt_b14_b17 : b14 ≠ b17 := Nat.ne_of_lt (Nat.lt_of_lt_of_le (A14.keep K15q).lt (Nat.le_of_eq g17.symm))
   have Z20 : n0 ≤ T20.heap.size := Nat.le_trans Z19 K20q.1
   have K20 : Keep hLA T20.heap [] := K19.trans K20q (allS (Or.inr sz_b17) all0)
   refine ja (fun _ k => st20.trans k) ?_
   have hk20c : T20.heap.size ≤ T20.heap.size := Nat.le_refl _
   have g22f := ((((A14.keep K15q).ext E17).keep K18q).keep K19q).keep K20q
   have g24f := (((p15_0.ext E17).keep K18q nin0).keep K19q nin0).keep K20q (ninS nt_b14_b17 nin0)
   have g25f := (((p15_1.ext E17).keep K18q nin0).keep K19q nin0).keep K20q (ninS nt_b14_b17 nin0)
   have g26f := (((p15_2.ext E17).keep K18q nin0).keep K19q nin0).keep K20q (ninS nt_b14_b17 nin0)
   obtain ⟨_, T23, L23, X23, hQ23, st23⟩ := jax X20 hx hZ20 hown20 ow55 ow56 ow58 ow57 ow59 ow3 (jdd l Z a0 hw [] b14 b17 S18' (0 : Int32) de kd T20.heap n0 Z20 g22f g24f g_b14 g25f g26f (((A17.keep K18q).keep K19q).keep K20q) ow110 (HBa.keep K20).2.2.1 (HBa.keep K20).2.2.2.2.2.2) rfl (notFace_of_selects (args := #[]) (mvT hZ20 ow58)) g22f (by decide) (g := (jj m 171 (oi p0) (oi p1) (oi p2) (oi p3) (oi kk) (oi nI) (oi s0) (oi s1) (oi s2) (oi d0) (oi d1) (oi d2) (oR ww) (oR b14) ou ou ou [(.ref b17), (.ref b14)])) rfl (by rw [hml]; rfl) (rest := []) rfl (lenOf jv rfl) rfl (W := 0) (Nat.le_of_eq rfl) (hb hby at_171) (by decide)
   obtain ⟨e23a, k23a, rfl, N23q, K23q, s_e23a, p23_0, p23_1, p23_2, p23_3, p23_4, p23_5⟩ := hQ23
   have N23 := Fr.app N20 N23q
   have g_e23a : n0 ≤ e23a := Nat.le_trans Z20 s_e23a
   have sz_e23a : hLA.size ≤ e23a := Nat.le_trans K20.1 s_e23a
   have hk23 : T20.heap.size ≤ T23.heap.size := Nat.le_trans hk20c K23q.1
   have Z23 : n0 ≤ T23.heap.size := Nat.le_trans Z20 K23q.1
   have K23 : Keep hLA T23.heap [] := K20.trans K23q (allS (Or.inr sz_b14) all0)
   refine ja st23 ?_
   refine ja (A := oW p e below T23 (jj m 178 (oi p0) (oi p1) (oi p2) (oi p3) (oi kk) (oi nI) (oi s0) (oi s1) (oi s2) (oi d0) (oi d1) (oi d2) (oR ww) (oR b14) ou ou ou [(.int 1), (.int nI)])) (fun t k => by
    refine XS.pop X23.here hx rfl (hb hby at_174) rfl rfl ?_
    refine XS.iload X23.here hx rfl (hb hby at_175) rfl ?_
    show oW p e below T23 (jj m 177 (oi p0) (oi p1) (oi p2) (oi p3) (oi kk) (oi nI) (oi s0) (oi s1) (oi s2) (oi d0) (oi d1) (oi d2) (oR ww) (oR b14) ou ou ou [(.int nI)]) _
    refine XS.iconst X23.here hx rfl (hb hby at_177) ?_
    exact k) ?_
   by_cases hc178_27 : (1 : Int32) < nI
   ·
    refine ja (A := oW p e below T23 (jj m 183 (oi p0) (oi p1) (oi p2) (oi p3) (oi kk) (oi nI) (oi s0) (oi s1) (oi s2) (oi d0) (oi d1) (oi d2) (oR ww) (oR b14) ou ou ou [(.ref b14)])) (fun t k => by
     refine XS.icmpNo X23.here hx rfl (hb hby at_178) rfl (tlt hc178_27).2.2.2 ?_
     refine XS.aload X23.here hx rfl (hb hby at_181) rfl rfl ?_
     exact k) ?_
    obtain ⟨T28, h28, X28, e28, E28, A28, D28, -, st28⟩ := newO X23 hx hZ20 hown20 ow86 ow87 ow88 rfl (g := (jj m 183 (oi p0) (oi p1) (oi p2) (oi p3) (oi kk) (oi nI) (oi s0) (oi s1) (oi s2) (oi d0) (oi d1) (oi d2) (oR ww) (oR b14) ou ou ou [(.ref b14)])) rfl (hb hby at_183) (by decide) (by decide)
    obtain ⟨b28, g28⟩ : ∃ z, z = T23.heap.size := ⟨_, rfl⟩
    rw [← g28] at A28 D28 st28
    refine ja st28 ?_
    have g_b28 : n0 ≤ b28 := Nat.le_trans Z23 (Nat.le_of_eq g28.symm)
    have hk28 : T20.heap.size ≤ h28.size := Nat.le_trans hk23 E28.1
    have Z28 : n0 ≤ h28.size := Nat.le_trans Z23 E28.1
    have sz_b28 : hLA.size ≤ b28 := Nat.le_trans K23.1 (Nat.le_of_eq g28.symm)
    have K28 : Keep hLA h28 [] := K23.ext E28
    have F28_source : Fld Z h28 b28 S18' "source" S25' .null := D28 (Or.inr ow107) (ty := (.object S2')) (by decide)
    have F28_destination : Fld Z h28 b28 S18' S40' S25' .null := D28 (Or.inr ow109) (ty := (.object S2')) (by decide)
    refine ja (A := oW p e below T28 (jj m 189 (oi p0) (oi p1) (oi p2) (oi p3) (oi kk) (oi nI) (oi s0) (oi s1) (oi s2) (oi d0) (oi d1) (oi d2) (oR ww) (oR b14) ou ou ou [(.int s1), (.ref b28), (.ref b28), (.ref b14)])) (fun t k => by
     refine XS.dup X28.here hx rfl (hb hby at_186) rfl rfl ?_
     refine XS.iload X28.here hx rfl (hb hby at_187) rfl ?_
     exact k) ?_
    obtain ⟨_, T29, L29, X29, hQ29, st29⟩ := jH X28 hx hZ20 hown20 ow27 ow28 ow30 ow29 (jaE l Z a0 hw [] s1 cz h28 n0 Z28 (HBa.keep K28).2.1 hcz hs1.1) e28 (by decide) (g := (jj m 189 (oi p0) (oi p1) (oi p2) (oi p3) (oi kk) (oi nI) (oi s0) (oi s1) (oi s2) (oi d0) (oi d1) (oi d2) (oR ww) (oR b14) ou ou ou [(.int s1), (.ref b28), (.ref b28), (.ref b14)])) rfl (by rw [hml]; rfl) (rest := [(.ref b28), (.ref b28), (.ref b14)]) rfl (lenOf jm rfl) rfl (W := 3) (Nat.le_of_eq rfl) (hb hby at_189) (by decide)
    obtain ⟨s29a, rfl, N29q, K29q, s_s29a, p29_0⟩ := hQ29
    have N29 := Fr.app N23 N29q
    have g_s29a : n0 ≤ s29a := Nat.le_trans Z28 s_s29a
    have sz_s29a : hLA.size ≤ s29a := Nat.le_trans K28.1 s_s29a
    have hk29 : T20.heap.size ≤ T29.heap.size := Nat.le_trans hk28 K29q.1
    have Z29 : n0 ≤ T29.heap.size := Nat.le_trans Z28 K29q.1
    have K29 : Keep hLA T29.heap [] := K28.trans K29q all0
    refine ja st29 ?_
    refine ja (A := oW p e below T29 (jj m 194 (oi p0) (oi p1) (oi p2) (oi p3) (oi kk) (oi nI) (oi s0) (oi s1) (oi s2) (oi d0) (oi d1) (oi d2) (oR ww) (oR b14) ou ou ou [(.int d1), (.ref s29a), (.ref b28), (.ref b28), (.ref b14)])) (fun t k => by
     refine XS.iload X29.here hx rfl (hb hby at_192) rfl ?_
     exact k) ?_
    obtain ⟨_, T30, L30, X30, hQ30, st30⟩ := jH X29 hx hZ20 hown20 ow27 ow28 ow30 ow29 (jaE l Z a0 hw [] d1 cz T29.heap n0 Z29 (HBa.keep K29).2.1 hcz hd1.1) rfl (by decide) (g := (jj m 194 (oi p0) (oi p1) (oi p2) (oi p3) (oi kk) (oi nI) (oi s0) (oi s1) (oi s2) (oi d0) (oi d1) (oi d2) (oR ww) (oR b14) ou ou ou [(.int d1), (.ref s29a), (.ref b28), (.ref b28), (.ref b14)])) rfl (by rw [hml]; rfl) (rest := [(.ref s29a), (.ref b28), (.ref b28), (.ref b14)]) rfl (lenOf jm rfl) rfl (W := 4) (Nat.le_of_eq rfl) (hb hby at_194) (by decide)
    obtain ⟨s30a, rfl, N30q, K30q, s_s30a, p30_0⟩ := hQ30
    have N30 := Fr.app N29 N30q
    have g_s30a : n0 ≤ s30a := Nat.le_trans Z29 s_s30a
    have sz_s30a : hLA.size ≤ s30a := Nat.le_trans K29.1 s_s30a
    have f30_1 := ((((((A17.keep K18q).keep K19q).keep K20q).keep K23q).ext E28).keep K29q).keep K30q
    have f30_2 := (((((p18_0.keep K19q all0).keep K20q (allS ⟨_, ((A17.keep K18q).keep K19q), by decide⟩ all0)).keep K23q (allS ⟨_, g22f, by decide⟩ all0)).ext E28).keep K29q all0).keep K30q all0
    have hk30 : T20.heap.size ≤ T30.heap.size := Nat.le_trans hk29 K30q.1
    have Z30 : n0 ≤ T30.heap.size := Nat.le_trans Z29 K30q.1
    have K30 : Keep hLA T30.heap [] := K29.trans K30q all0
    refine ja st30 ?_
    have g32f := (F28_destination.keep K29q nin0).keep K30q nin0
    obtain ⟨_, _, ⟨T31, L31, k31, n31⟩, -, X31q, Sn31q, gr31, ⟨Lc31, hQ31, l31, y31, z31⟩, st31⟩ := X30.specialBackS hx (y := M19') rfl hown20 (mvT hZ20 ow89) (mvT hZ20 ow90) (mvT hZ20 ow91) (by decide) (backOfS (W := 2) (jcY l Z a0 hw [] b28 s29a s30a T30.heap n0 Z30 ((A28.keep K29q).keep K30q) g_b28 ((F28_source.keep K29q nin0).keep K30q nin0) g32f) hZ20 ow91 ow88 (by decide) (by decide)) (g := (jj m 197 (oi p0) (oi p1) (oi p2) (oi p3) (oi kk) (oi nI) (oi s0) (oi s1) (oi s2) (oi d0) (oi d1) (oi d2) (oR ww) (oR b14) ou ou ou [(.ref s30a), (.ref s29a), (.ref b28), (.ref b28), (.ref b14)])) rfl (by rw [hml]; rfl) (Steps.refl _) (a := b28) (argsL := [(.ref s29a), (.ref s30a)]) (rest := [(.ref b28), (.ref b14)]) (lenOf jF rfl) rfl (by show 2 * 0 + _ ≤ _; exact Nat.le_of_eq rfl) (hb hby at_197) (fun _ _ => ⟨rfl, rfl, (by decide : 36 + 4 ≤ _), (by decide : 263 + 76 ≤ _)⟩)
    dsimp only [Pt.U, Pt.locs, Pt.cells, Pt.slots] at X31q l31 y31 z31 st31 hQ31
    subst l31 y31 z31
    dsimp only [Pt.U] at Sn31q gr31
    obtain ⟨X31, Sn31, hZ31, hown31⟩ := rebS Sn20 hk30 X31q Sn31q gr31 hZ20 hown20
    obtain ⟨rfl, N31q, K31q, p31_0, p31_1⟩ := hQ31
    have N31 := Fr.app N30 N31q
    have f31_3 := ((((((p18_0.2.1.keep K19q).keep K20q).keep K23q).ext E28).keep K29q).keep K30q).keep K31q
    have f31_4 := (((((p19_0.keep K20q (allS ⟨_, ((A17.keep K18q).keep K19q), by decide⟩ all0)).keep K23q (allS ⟨_, g22f, by decide⟩ all0)).ext E28).keep K29q all0).keep K30q all0).keep K31q (allS ⟨_, ((A28.keep K29q).keep K30q), by decide⟩ all0)
    have nt_b17_b28 : b17 ≠ b28 := Nat.ne_of_lt (Nat.lt_of_lt_of_le ((((A17.keep K18q).keep K19q).keep K20q).keep K23q).lt (Nat.le_of_eq g28.symm))
    have nt_e23a_b28 : e23a ≠ b28 := Nat.ne_of_lt (Nat.lt_of_lt_of_le p23_0.lt (Nat.le_of_eq g28.symm))
    have nt_b14_b28 : b14 ≠ b28 := Nat.ne_of_lt (Nat.lt_of_lt_of_le (g22f.keep K23q).lt (Nat.le_of_eq g28.symm))
    have Z31 : n0 ≤ T31.heap.size := Nat.le_trans Z30 K31q.1
    have K31 : Keep hLA T31.heap [] := K30.trans K31q (allS (Or.inr sz_b28) all0)
    refine ja (fun _ k => st31.trans k) ?_
    have hk31c : T31.heap.size ≤ T31.heap.size := Nat.le_refl _
    have g33f := ((((g22f.keep K23q).ext E28).keep K29q).keep K30q).keep K31q
    have g35f := (((p23_3.ext E28).keep K29q nin0).keep K30q nin0).keep K31q (ninS nt_b14_b28 nin0)
    have g36f := (((p23_4.ext E28).keep K29q nin0).keep K30q nin0).keep K31q (ninS nt_b14_b28 nin0)
    have g37f := (((p23_5.ext E28).keep K29q nin0).keep K30q nin0).keep K31q (ninS nt_b14_b28 nin0)
    have g38f := (((p23_2.ext E28).keep K29q nin0).keep K30q nin0).keep K31q (ninS nt_e23a_b28 nin0)
    have g39f := (((p23_0.ext E28).keep K29q).keep K30q).keep K31q
    obtain ⟨_, T34, L34, X34, hQ34, st34⟩ := jax X31 hx hZ31 hown31 ow55 ow56 ow58 ow57 ow59 ow3 (jde l Z a0 hw [] b14 b28 S18' ((0 : Int32) + (1 : Int32)) e23a k23a b17 T31.heap n0 Z31 g33f g35f g_b14 g36f g37f (((A28.keep K29q).keep K30q).keep K31q) ow110 g39f p23_1 g38f g_e23a) rfl (notFace_of_selects (args := #[]) (mvT hZ31 ow58)) g33f (by decide) (g := (jj m 200 (oi p0) (oi p1) (oi p2) (oi p3) (oi kk) (oi nI) (oi s0) (oi s1) (oi s2) (oi d0) (oi d1) (oi d2) (oR ww) (oR b14) ou ou ou [(.ref b28), (.ref b14)])) rfl (by rw [hml]; rfl) (rest := []) rfl (lenOf jv rfl) rfl (W := 0) (Nat.le_of_eq rfl) (hb hby at_200) (by decide)
    obtain ⟨rfl, N34q, K34q, p34_2, p34_3, p34_4, p34_5⟩ := hQ34
    have N34 := Fr.app N31 N34q
    have f34_5 := ((((((p19_0.2.1.keep K20q).keep K23q).ext E28).keep K29q).keep K30q).keep K31q).keep K34q
    have nt_b17_e23a : b17 ≠ e23a := Nat.ne_of_lt (Nat.lt_of_lt_of_le (((A17.keep K18q).keep K19q).keep K20q).lt s_e23a)
    have f34_6 := (((((p20_0.keep K23q (ninS (Ne.symm nt_b14_b17) nin0)).ext E28).keep K29q nin0).keep K30q nin0).keep K31q (ninS nt_b17_b28 nin0)).keep K34q (ninS (Ne.symm nt_b14_b17) (ninS nt_b17_e23a nin0))
    have f34_7 := (((((p20_1.keep K23q (ninS (Ne.symm nt_b14_b17) nin0)).ext E28).keep K29q nin0).keep K30q nin0).keep K31q (ninS nt_b17_b28 nin0)).keep K34q (ninS (Ne.symm nt_b14_b17) (ninS nt_b17_e23a nin0))
    have hk34 : T31.heap.size ≤ T34.heap.size := Nat.le_trans hk31c K34q.1
    have Z34 : n0 ≤ T34.heap.size := Nat.le_trans Z31 K34q.1
    have K34 : Keep hLA T34.heap [] := K31.trans K34q (allS (Or.inr sz_b14) (allS (Or.inr sz_e23a) all0))
    refine ja st34 ?_
    refine ja (A := oW p e below T34 (jj m 207 (oi p0) (oi p1) (oi p2) (oi p3) (oi kk) (oi nI) (oi s0) (oi s1) (oi s2) (oi d0) (oi d1) (oi d2) (oR ww) (oR b14) ou ou ou [(.int 2), (.int nI)])) (fun t k => by
     refine XS.pop X34.here hx rfl (hb hby at_203) rfl rfl ?_
     refine XS.iload X34.here hx rfl (hb hby at_204) rfl ?_
     refine XS.iconst X34.here hx rfl (hb hby at_206) ?_
     exact k) ?_
    by_cases hc207_40 : (2 : Int32) < nI
    ·
     refine ja (A := oW p e below T34 (jj m 212 (oi p0) (oi p1) (oi p2) (oi p3) (oi kk) (oi nI) (oi s0) (oi s1) (oi s2) (oi d0) (oi d1) (oi d2) (oR ww) (oR b14) ou ou ou [(.ref b14)])) (fun t k => by
      refine XS.icmpNo X34.here hx rfl (hb hby at_207) rfl (tlt hc207_40).2.2.2 ?_
      show oW p e below T34 (jj m 210 (oi p0) (oi p1) (oi p2) (oi p3) (oi kk) (oi nI) (oi s0) (oi s1) (oi s2) (oi d0) (oi d1) (oi d2) (oR ww) (oR b14) ou ou ou []) _
      refine XS.aload X34.here hx rfl (hb hby at_210) rfl rfl ?_
      exact k) ?_
     obtain ⟨T41, h41, X41, e41, E41, A41, D41, -, st41⟩ := newO X34 hx hZ31 hown31 ow86 ow87 ow88 rfl (g := (jj m 212 (oi p0) (oi p1) (oi p2) (oi p3) (oi kk) (oi nI) (oi s0) (oi s1) (oi s2) (oi d0) (oi d1) (oi d2) (oR ww) (oR b14) ou ou ou [(.ref b14)])) rfl (hb hby at_212) (by decide) (by decide)
     obtain ⟨b41, g41⟩ : ∃ z, z = T34.heap.size := ⟨_, rfl⟩
     rw [← g41] at A41 D41 st41
     refine ja st41 ?_
     have g_b41 : n0 ≤ b41 := Nat.le_trans Z34 (Nat.le_of_eq g41.symm)
     have hk41 : T31.heap.size ≤ h41.size := Nat.le_trans hk34 E41.1
     have Z41 : n0 ≤ h41.size := Nat.le_trans Z34 E41.1
     have sz_b41 : hLA.size ≤ b41 := Nat.le_trans K34.1 (Nat.le_of_eq g41.symm)
     have K41 : Keep hLA h41 [] := K34.ext E41
     have F41_source : Fld Z h41 b41 S18' "source" S25' .null := D41 (Or.inr ow107) (ty := (.object S2')) (by decide)
     have F41_destination : Fld Z h41 b41 S18' S40' S25' .null := D41 (Or.inr ow109) (ty := (.object S2')) (by decide)
     refine ja (A := oW p e below T41 (jj m 218 (oi p0) (oi p1) (oi p2) (oi p3) (oi kk) (oi nI) (oi s0) (oi s1) (oi s2) (oi d0) (oi d1) (oi d2) (oR ww) (oR b14) ou ou ou [(.int s2), (.ref b41), (.ref b41), (.ref b14)])) (fun t k => by
      refine XS.dup X41.here hx rfl (hb hby at_215) rfl rfl ?_
      refine XS.iload X41.here hx rfl (hb hby at_216) rfl ?_
      exact k) ?_
     obtain ⟨_, T42, L42, X42, hQ42, st42⟩ := jH X41 hx hZ31 hown31 ow27 ow28 ow30 ow29 (jaE l Z a0 hw [] s2 cz h41 n0 Z41 (HBa.keep K41).2.1 hcz hs2.1) e41 (by decide) (g := (jj m 218 (oi p0) (oi p1) (oi p2) (oi p3) (oi kk) (oi nI) (oi s0) (oi s1) (oi s2) (oi d0) (oi d1) (oi d2) (oR ww) (oR b14) ou ou ou [(.int s2), (.ref b41), (.ref b41), (.ref b14)])) rfl (by rw [hml]; rfl) (rest := [(.ref b41), (.ref b41), (.ref b14)]) rfl (lenOf jm rfl) rfl (W := 3) (Nat.le_of_eq rfl) (hb hby at_218) (by decide)
     obtain ⟨s42a, rfl, N42q, K42q, s_s42a, p42_0⟩ := hQ42
     have N42 := Fr.app N34 N42q
     have g_s42a : n0 ≤ s42a := Nat.le_trans Z41 s_s42a
     have sz_s42a : hLA.size ≤ s42a := Nat.le_trans K41.1 s_s42a
     have f42_2 := (((f30_2.keep K31q (allS ⟨_, ((A28.keep K29q).keep K30q), by decide⟩ all0)).keep K34q (allS ⟨_, g33f, by decide⟩ (allS ⟨_, g39f, by decide⟩ all0))).ext E41).keep K42q all0
     have f42_10 := ((((p29_0.keep K30q all0).keep K31q (allS ⟨_, ((A28.keep K29q).keep K30q), by decide⟩ all0)).keep K34q (allS ⟨_, g33f, by decide⟩ (allS ⟨_, g39f, by decide⟩ all0))).ext E41).keep K42q all0
     have f42_12 := (((p30_0.keep K31q (allS ⟨_, ((A28.keep K29q).keep K30q), by decide⟩ all0)).keep K34q (allS ⟨_, g33f, by decide⟩ (allS ⟨_, g39f, by decide⟩ all0))).ext E41).keep K42q all0
     have hk42 : T31.heap.size ≤ T42.heap.size := Nat.le_trans hk41 K42q.1
     have Z42 : n0 ≤ T42.heap.size := Nat.le_trans Z41 K42q.1
     have K42 : Keep hLA T42.heap [] := K41.trans K42q all0
     refine ja st42 ?_
     refine ja (A := oW p e below T42 (jj m 223 (oi p0) (oi p1) (oi p2) (oi p3) (oi kk) (oi nI) (oi s0) (oi s1) (oi s2) (oi d0) (oi d1) (oi d2) (oR ww) (oR b14) ou ou ou [(.int d2), (.ref s42a), (.ref b41), (.ref b41), (.ref b14)])) (fun t k => by
      refine XS.iload X42.here hx rfl (hb hby at_221) rfl ?_
      exact k) ?_
     obtain ⟨_, T43, L43, X43, hQ43, st43⟩ := jH X42 hx hZ31 hown31 ow27 ow28 ow30 ow29 (jaE l Z a0 hw [] d2 cz T42.heap n0 Z42 (HBa.keep K42).2.1 hcz hd2.1) rfl (by decide) (g := (jj m 223 (oi p0) (oi p1) (oi p2) (oi p3) (oi kk) (oi nI) (oi s0) (oi s1) (oi s2) (oi d0) (oi d1) (oi d2) (oR ww) (oR b14) ou ou ou [(.int d2), (.ref s42a), (.ref b41), (.ref b41), (.ref b14)])) rfl (by rw [hml]; rfl) (rest := [(.ref s42a), (.ref b41), (.ref b41), (.ref b14)]) rfl (lenOf jm rfl) rfl (W := 4) (Nat.le_of_eq rfl) (hb hby at_223) (by decide)
     obtain ⟨s43a, rfl, N43q, K43q, s_s43a, p43_0⟩ := hQ43
     have N43 := Fr.app N42 N43q
     have g_s43a : n0 ≤ s43a := Nat.le_trans Z42 s_s43a
     have sz_s43a : hLA.size ≤ s43a := Nat.le_trans K42.1 s_s43a
     have f43_9 := ((((((A28.keep K29q).keep K30q).keep K31q).keep K34q).ext E41).keep K42q).keep K43q
     have hk43 : T31.heap.size ≤ T43.heap.size := Nat.le_trans hk42 K43q.1
     have Z43 : n0 ≤ T43.heap.size := Nat.le_trans Z42 K43q.1
     have K43 : Keep hLA T43.heap [] := K42.trans K43q all0
     refine ja st43 ?_
     have g45f := (F41_destination.keep K42q nin0).keep K43q nin0
     obtain ⟨_, _, ⟨T44, L44, k44, n44⟩, -, X44q, Sn44q, gr44, ⟨Lc44, hQ44, l44, y44, z44⟩, st44⟩ := X43.specialBackS hx (y := M19') rfl hown31 (mvT hZ31 ow89) (mvT hZ31 ow90) (mvT hZ31 ow91) (by decide) (backOfS (W := 2) (jcY l Z a0 hw [] b41 s42a s43a T43.heap n0 Z43 ((A41.keep K42q).keep K43q) g_b41 ((F41_source.keep K42q nin0).keep K43q nin0) g45f) hZ31 ow91 ow88 (by decide) (by decide)) (g := (jj m 226 (oi p0) (oi p1) (oi p2) (oi p3) (oi kk) (oi nI) (oi s0) (oi s1) (oi s2) (oi d0) (oi d1) (oi d2) (oR ww) (oR b14) ou ou ou [(.ref s43a), (.ref s42a), (.ref b41), (.ref b41), (.ref b14)])) rfl (by rw [hml]; rfl) (Steps.refl _) (a := b41) (argsL := [(.ref s42a), (.ref s43a)]) (rest := [(.ref b41), (.ref b14)]) (lenOf jF rfl) rfl (by show 2 * 0 + _ ≤ _; exact Nat.le_of_eq rfl) (hb hby at_226) (fun _ _ => ⟨rfl, rfl, (by decide : 45 + 4 ≤ _), (by decide : 351 + 76 ≤ _)⟩)
     dsimp only [Pt.U, Pt.locs, Pt.cells, Pt.slots] at X44q l44 y44 z44 st44 hQ44
     subst l44 y44 z44
     dsimp only [Pt.U] at Sn44q gr44
     obtain ⟨X44, Sn44, hZ44, hown44⟩ := rebS Sn31 hk43 X44q Sn44q gr44 hZ31 hown31
     obtain ⟨rfl, N44q, K44q, p44_0, p44_1⟩ := hQ44
     have N44 := Fr.app N43 N44q
     have f44_4 := ((((f31_4.keep K34q (allS ⟨_, g33f, by decide⟩ (allS ⟨_, g39f, by decide⟩ all0))).ext E41).keep K42q all0).keep K43q all0).keep K44q (allS ⟨_, ((A41.keep K42q).keep K43q), by decide⟩ all0)
     have nt_b17_b41 : b17 ≠ b41 := Nat.ne_of_lt (Nat.lt_of_lt_of_le ((f30_1.keep K31q).keep K34q).lt (Nat.le_of_eq g41.symm))
     have f44_11 := ((((((p29_0.2.1.keep K30q).keep K31q).keep K34q).ext E41).keep K42q).keep K43q).keep K44q
     have nt_b28_b41 : b28 ≠ b41 := Nat.ne_of_lt (Nat.lt_of_lt_of_le ((((A28.keep K29q).keep K30q).keep K31q).keep K34q).lt (Nat.le_of_eq g41.symm))
     have nt_e23a_b41 : e23a ≠ b41 := Nat.ne_of_lt (Nat.lt_of_lt_of_le (g39f.keep K34q).lt (Nat.le_of_eq g41.symm))
     have nt_b14_b41 : b14 ≠ b41 := Nat.ne_of_lt (Nat.lt_of_lt_of_le (g33f.keep K34q).lt (Nat.le_of_eq g41.symm))
     have Z44 : n0 ≤ T44.heap.size := Nat.le_trans Z43 K44q.1
     have K44 : Keep hLA T44.heap [] := K43.trans K44q (allS (Or.inr sz_b41) all0)
     refine ja (fun _ k => st44.trans k) ?_
     have hk44c : T44.heap.size ≤ T44.heap.size := Nat.le_refl _
     have g46f := ((((g33f.keep K34q).ext E41).keep K42q).keep K43q).keep K44q
     have g48f := (((p34_3.ext E41).keep K42q nin0).keep K43q nin0).keep K44q (ninS nt_b14_b41 nin0)
     have g49f := (((p34_4.ext E41).keep K42q nin0).keep K43q nin0).keep K44q (ninS nt_b14_b41 nin0)
     have g50f := (((p34_5.ext E41).keep K42q nin0).keep K43q nin0).keep K44q (ninS nt_b14_b41 nin0)
     have g51f := (((p34_2.ext E41).keep K42q nin0).keep K43q nin0).keep K44q (ninS nt_e23a_b41 nin0)
     have g52f := ((((g39f.keep K34q).ext E41).keep K42q).keep K43q).keep K44q
     obtain ⟨_, T47, L47, X47, hQ47, st47⟩ := jax X44 hx hZ44 hown44 ow55 ow56 ow58 ow57 ow59 ow3 (jdf l Z a0 hw [] b14 b41 S18' (((0 : Int32) + (1 : Int32)) + (1 : Int32)) e23a k23a b17 b28 T44.heap n0 Z44 g46f g48f g_b14 g49f g50f (((A41.keep K42q).keep K43q).keep K44q) ow110 g52f p23_1 g51f g_e23a) rfl (notFace_of_selects (args := #[]) (mvT hZ44 ow58)) g46f (by decide) (g := (jj m 229 (oi p0) (oi p1) (oi p2) (oi p3) (oi kk) (oi nI) (oi s0) (oi s1) (oi s2) (oi d0) (oi d1) (oi d2) (oR ww) (oR b14) ou ou ou [(.ref b41), (.ref b14)])) rfl (by rw [hml]; rfl) (rest := []) rfl (lenOf jv rfl) rfl (W := 0) (Nat.le_of_eq rfl) (hb hby at_229) (by decide)
     obtain ⟨rfl, N47q, K47q, p47_2, p47_3, p47_4, p47_5⟩ := hQ47
     have N47 := Fr.app N44 N47q
     have f47_1 := ((((((f30_1.keep K31q).keep K34q).ext E41).keep K42q).keep K43q).keep K44q).keep K47q
     have f47_13 := ((((((p30_0.2.1.keep K31q).keep K34q).ext E41).keep K42q).keep K43q).keep K44q).keep K47q
     have f47_14 := (((((p31_0.keep K34q (ninS (Ne.symm nt_b14_b28) (ninS (Ne.symm nt_e23a_b28) nin0))).ext E41).keep K42q nin0).keep K43q nin0).keep K44q (ninS nt_b28_b41 nin0)).keep K47q (ninS (Ne.symm nt_b14_b28) (ninS (Ne.symm nt_e23a_b28) nin0))
     have f47_15 := (((((p31_1.keep K34q (ninS (Ne.symm nt_b14_b28) (ninS (Ne.symm nt_e23a_b28) nin0))).ext E41).keep K42q nin0).keep K43q nin0).keep K44q (ninS nt_b28_b41 nin0)).keep K47q (ninS (Ne.symm nt_b14_b28) (ninS (Ne.symm nt_e23a_b28) nin0))
     have hk47 : T44.heap.size ≤ T47.heap.size := Nat.le_trans hk44c K47q.1
     have Z47 : n0 ≤ T47.heap.size := Nat.le_trans Z44 K47q.1
     have K47 : Keep hLA T47.heap [] := K44.trans K47q (allS (Or.inr sz_b14) (allS (Or.inr sz_e23a) all0))
     refine ja st47 ?_
     refine ja (A := oW p e below T47 (jj m 233 (oi p0) (oi p1) (oi p2) (oi p3) (oi kk) (oi nI) (oi s0) (oi s1) (oi s2) (oi d0) (oi d1) (oi d2) (oR ww) (oR b14) ou ou ou [])) (fun t k => by
      refine XS.pop X47.here hx rfl (hb hby at_232) rfl rfl ?_
      exact k) ?_
     have g53f := ((((f34_6.ext E41).keep K42q nin0).keep K43q nin0).keep K44q (ninS nt_b17_b41 nin0)).keep K47q (ninS (Ne.symm nt_b14_b17) (ninS nt_b17_e23a nin0))
     have g54f := ((((f34_7.ext E41).keep K42q nin0).keep K43q nin0).keep K44q (ninS nt_b17_b41 nin0)).keep K47q (ninS (Ne.symm nt_b14_b17) (ninS nt_b17_e23a nin0))
     have g55f := ((f42_2.keep K43q all0).keep K44q (allS ⟨_, ((A41.keep K42q).keep K43q), by decide⟩ all0)).keep K47q (allS ⟨_, g46f, by decide⟩ (allS ⟨_, g52f, by decide⟩ all0))
     have g56f := f44_4.keep K47q (allS ⟨_, g46f, by decide⟩ (allS ⟨_, g52f, by decide⟩ all0))
     have g57f := ((f42_10.keep K43q all0).keep K44q (allS ⟨_, ((A41.keep K42q).keep K43q), by decide⟩ all0)).keep K47q (allS ⟨_, g46f, by decide⟩ (allS ⟨_, g52f, by decide⟩ all0))
     have g58f := ((f42_12.keep K43q all0).keep K44q (allS ⟨_, ((A41.keep K42q).keep K43q), by decide⟩ all0)).keep K47q (allS ⟨_, g46f, by decide⟩ (allS ⟨_, g52f, by decide⟩ all0))
     have g59f := p44_0.keep K47q (ninS (Ne.symm nt_b14_b41) (ninS (Ne.symm nt_e23a_b41) nin0))
     have g60f := p44_1.keep K47q (ninS (Ne.symm nt_b14_b41) (ninS (Ne.symm nt_e23a_b41) nin0))
     have g61f := (((A41.keep K42q).keep K43q).keep K44q).keep K47q
     have g62f := ((p42_0.keep K43q all0).keep K44q (allS ⟨_, ((A41.keep K42q).keep K43q), by decide⟩ all0)).keep K47q (allS ⟨_, g46f, by decide⟩ (allS ⟨_, g52f, by decide⟩ all0))
     have g63f := (p43_0.keep K44q (allS ⟨_, ((A41.keep K42q).keep K43q), by decide⟩ all0)).keep K47q (allS ⟨_, g46f, by decide⟩ (allS ⟨_, g52f, by decide⟩ all0))
     have pl64 : jbg Z n0 T47.heap e23a 3 (List.take 3 [s0, s1, s2]) (List.take 3 [d0, d1, d2]) := Or.inr ⟨(g52f.keep K47q), _, _, p47_2, fun i hi => by match i, hi with | 0, _ => exact ⟨b17, s18a, s19a, rfl, f47_1, g53f, g54f, g55f, g56f⟩ | 1, _ => exact ⟨b28, s29a, s30a, rfl, ((f43_9.keep K44q).keep K47q), f47_14, f47_15, g57f, g58f⟩ | 2, _ => exact ⟨b41, s42a, s43a, rfl, g61f, g59f, g60f, g62f, g63f⟩ | j + 3, h => exact absurd h (by omega)⟩
     exact lbLB _ _ ww b14 e23a 3 _ _ _ (X47.mono (by decide) (by decide)) rfl N47 Z47 hZ44 hown44 Sn44 hk47 (HBa.keep K47) (HWa.keep K47 all0) (g46f.keep K47q) p47_5 p47_4 pl64 (by decide) ((jgm hnI).2.2.2 hc207_40)
    ·
     refine ja (A := oW p e below T34 (jj m 233 (oi p0) (oi p1) (oi p2) (oi p3) (oi kk) (oi nI) (oi s0) (oi s1) (oi s2) (oi d0) (oi d1) (oi d2) (oR ww) (oR b14) ou ou ou [])) (fun t k => by
      refine XS.icmpYes X34.here hx rfl (pc0 := 207) (pc' := 233) rfl (hb hby at_207) rfl (flt hc207_40).2.2.2 (by decide) (by decide) ?_
      exact k) ?_
     have g65f := (f30_2.keep K31q (allS ⟨_, ((A28.keep K29q).keep K30q), by decide⟩ all0)).keep K34q (allS ⟨_, g33f, by decide⟩ (allS ⟨_, g39f, by decide⟩ all0))
     have g66f := f31_4.keep K34q (allS ⟨_, g33f, by decide⟩ (allS ⟨_, g39f, by decide⟩ all0))
     have g67f := p31_0.keep K34q (ninS (Ne.symm nt_b14_b28) (ninS (Ne.symm nt_e23a_b28) nin0))
     have g68f := p31_1.keep K34q (ninS (Ne.symm nt_b14_b28) (ninS (Ne.symm nt_e23a_b28) nin0))
     have g69f := (((A28.keep K29q).keep K30q).keep K31q).keep K34q
     have g70f := ((p29_0.keep K30q all0).keep K31q (allS ⟨_, ((A28.keep K29q).keep K30q), by decide⟩ all0)).keep K34q (allS ⟨_, g33f, by decide⟩ (allS ⟨_, g39f, by decide⟩ all0))
     have g71f := (p30_0.keep K31q (allS ⟨_, ((A28.keep K29q).keep K30q), by decide⟩ all0)).keep K34q (allS ⟨_, g33f, by decide⟩ (allS ⟨_, g39f, by decide⟩ all0))
     have pl72 : jbg Z n0 T34.heap e23a 2 (List.take 2 [s0, s1, s2]) (List.take 2 [d0, d1, d2]) := Or.inr ⟨(g39f.keep K34q), _, _, p34_2, fun i hi => by match i, hi with | 0, _ => exact ⟨b17, s18a, s19a, rfl, ((f30_1.keep K31q).keep K34q), f34_6, f34_7, g65f, g66f⟩ | 1, _ => exact ⟨b28, s29a, s30a, rfl, g69f, g67f, g68f, g70f, g71f⟩ | j + 2, h => exact absurd h (by omega)⟩
     exact lbLB _ _ ww b14 e23a 2 _ _ _ (X34.mono (by decide) (by decide)) rfl N34 Z34 hZ31 hown31 Sn31 hk34 (HBa.keep K34) (HWa.keep K34 all0) (g33f.keep K34q) p34_5 p34_4 pl72 (by decide) ((jgm hnI).2.2.1 hc178_27 hc207_40)
   ·
    refine ja (A := oW p e below T23 (jj m 233 (oi p0) (oi p1) (oi p2) (oi p3) (oi kk) (oi nI) (oi s0) (oi s1) (oi s2) (oi d0) (oi d1) (oi d2) (oR ww) (oR b14) ou ou ou [])) (fun t k => by
     refine XS.icmpYes X23.here hx rfl (pc0 := 178) (pc' := 204) rfl (hb hby at_178) rfl (flt hc178_27).2.2.2 (by decide) (by decide) ?_
     refine XS.iload X23.here hx rfl (hb hby at_204) rfl ?_
     refine XS.iconst X23.here hx rfl (hb hby at_206) ?_
     refine XS.icmpYes X23.here hx rfl (pc0 := 207) (pc' := 233) rfl (hb hby at_207) rfl (flt (jbI.2 hc178_27)).2.2.2 (by decide) (by decide) ?_
     exact k) ?_
    have g73f := p20_0.keep K23q (ninS (Ne.symm nt_b14_b17) nin0)
    have g74f := p20_1.keep K23q (ninS (Ne.symm nt_b14_b17) nin0)
    have g75f := (((A17.keep K18q).keep K19q).keep K20q).keep K23q
    have g76f := ((p18_0.keep K19q all0).keep K20q (allS ⟨_, ((A17.keep K18q).keep K19q), by decide⟩ all0)).keep K23q (allS ⟨_, g22f, by decide⟩ all0)
    have g77f := (p19_0.keep K20q (allS ⟨_, ((A17.keep K18q).keep K19q), by decide⟩ all0)).keep K23q (allS ⟨_, g22f, by decide⟩ all0)
    have pl78 : jbg Z n0 T23.heap e23a 1 (List.take 1 [s0, s1, s2]) (List.take 1 [d0, d1, d2]) := Or.inr ⟨p23_0, _, _, p23_2, fun i hi => by match i, hi with | 0, _ => exact ⟨b17, s18a, s19a, rfl, g75f, g73f, g74f, g76f, g77f⟩ | j + 1, h => exact absurd h (by omega)⟩
    exact lbLB _ _ ww b14 e23a 1 _ _ _ (X23.mono (by decide) (by decide)) rfl N23 Z23 hZ20 hown20 Sn20 hk23 (HBa.keep K23) (HWa.keep K23 all0) (g22f.keep K23q) p23_5 p23_4 pl78 (by decide) ((jgm hnI).2.1 hc149_16 hc178_27)
  ·
   refine ja (A := oW p e below T15 (jj m 233 (oi p0) (oi p1) (oi p2) (oi p3) (oi kk) (oi nI) (oi s0) (oi s1) (oi s2) (oi d0) (oi d1) (oi d2) (oR ww) (oR b14) ou ou ou [])) (fun t k => by
    refine XS.ifYes X15.here hx rfl (pc0 := 149) (pc' := 175) rfl (hb hby at_149) rfl ((if0 _ _).trans (flt hc149_16).2.2.2) (by decide) (by decide) ?_
    refine XS.iload X15.here hx rfl (hb hby at_175) rfl ?_
    refine XS.iconst X15.here hx rfl (hb hby at_177) ?_
    refine XS.icmpYes X15.here hx rfl (pc0 := 178) (pc' := 204) rfl (hb hby at_178) rfl (flt (jbI.1 hc149_16)).2.2.2 (by decide) (by decide) ?_
    refine XS.iload X15.here hx rfl (hb hby at_204) rfl ?_
    show oW p e below T15 (jj m 206 (oi p0) (oi p1) (oi p2) (oi p3) (oi kk) (oi nI) (oi s0) (oi s1) (oi s2) (oi d0) (oi d1) (oi d2) (oR ww) (oR b14) ou ou ou [(.int nI)]) _
    refine XS.iconst X15.here hx rfl (hb hby at_206) ?_
    refine XS.icmpYes X15.here hx rfl (pc0 := 207) (pc' := 233) rfl (hb hby at_207) rfl (flt (jbI.2 (jbI.1 hc149_16))).2.2.2 (by decide) (by decide) ?_
    exact k) ?_
   exact lbLB _ _ ww b14 de 0 _ _ _ (X15.mono (by decide) (by decide)) rfl N15 Z15 hZLA hownLA SnLA hk15 (HBa.keep K15) (HWa.keep K15 all0) (A14.keep K15q) p15_2 p15_1 (Or.inl rfl) (by decide) ((jgm hnI).1 hc149_16)
 obtain ⟨T79, h79, X79, e79, E79, A79, D79, -, st79⟩ := newO X0 hx hZ hown ow1 ow2 ow3 e0 (g := (jj m 87 (oi p0) (oi p1) (oi p2) (oi p3) (oi kk) (oi nI) (oi s0) (oi s1) (oi s2) (oi d0) (oi d1) (oi d2) ou ou ou ou ou [])) rfl (hb hby at_87) (by decide) (by decide)
 obtain ⟨b79, g79⟩ : ∃ z, z = h0.size := ⟨_, rfl⟩
 rw [← g79] at A79 D79 st79
 refine ja st79 ?_
 have g_b79 : n0 ≤ b79 := Nat.le_trans Z0 (Nat.le_of_eq g79.symm)
 have hk79 : 0 ≤ h79.size := Nat.le_trans hk0 E79.1
 have Z79 : n0 ≤ h79.size := Nat.le_trans Z0 E79.1
 have sz_b79 : h0.size ≤ b79 := Nat.le_trans (Keep.refl h0 []).1 (Nat.le_of_eq g79.symm)
 have K79 : Keep h0 h79 [] := (Keep.refl h0 []).ext E79
 have F79_modCount : Fld Z h79 b79 S19' S12' "I" (.int 0) := D79 (Or.inl ow23) (ty := .int) (by decide)
 have F79_elementData : Fld Z h79 b79 S3' S15' S4' .null := D79 (Or.inl ow26) (ty := (.array (.object S0'))) (by decide)
 have F79_size : Fld Z h79 b79 S3' S8' "I" (.int 0) := D79 (Or.inl ow63) (ty := .int) (by decide)
 refine ja (A := oW p e below T79 (jj m 91 (oi p0) (oi p1) (oi p2) (oi p3) (oi kk) (oi nI) (oi s0) (oi s1) (oi s2) (oi d0) (oi d1) (oi d2) ou ou ou ou ou [(.ref b79), (.ref b79)])) (fun t k => by
  refine XS.dup X79.here hx rfl (hb hby at_90) rfl rfl ?_
  exact k) ?_
 obtain ⟨_, T80, L80, X80, hQ80, st80⟩ := jaF X79 hx hZ hown ow4 ow5 ow6 ow3 (jct l Z a0 hw [] b79 de h79 n0 Z79 A79 F79_modCount g_b79 F79_elementData F79_size (HB0.keep K79).2.2.1) e79 rfl (by decide) (g := (jj m 91 (oi p0) (oi p1) (oi p2) (oi p3) (oi kk) (oi nI) (oi s0) (oi s1) (oi s2) (oi d0) (oi d1) (oi d2) ou ou ou ou ou [(.ref b79), (.ref b79)])) rfl (by rw [hml]; rfl) (rest := [(.ref b79)]) rfl (lenOf jS rfl) rfl (W := 1) (Nat.le_of_eq rfl) (hb hby at_91) (by decide)
 obtain ⟨rfl, N80q, K80q, p80_0, p80_1, p80_2⟩ := hQ80
 have N80 := Fr.app N0 N80q
 have hk80 : 0 ≤ T80.heap.size := Nat.le_trans hk79 K80q.1
 have Z80 : n0 ≤ T80.heap.size := Nat.le_trans Z79 K80q.1
 have K80 : Keep h0 T80.heap [] := K79.trans K80q (allS (Or.inr sz_b79) all0)
 refine ja st80 ?_
 refine ja (A := oW p e below T80 (jj m 99 (oi p0) (oi p1) (oi p2) (oi p3) (oi kk) (oi nI) (oi s0) (oi s1) (oi s2) (oi d0) (oi d1) (oi d2) (oR b79) ou ou ou ou [(.int 0), (.ref b79)])) (fun t k => by
  refine XS.astore X80.here hx rfl (hb hby at_94) rfl rfl (l' := #[(oi p0), (oi p1), (oi p2), (oi p3), (oi kk), (oi nI), (oi s0), (oi s1), (oi s2), (oi d0), (oi d1), (oi d2), (oR b79), ou, ou, ou, ou]) rfl ?_
  refine XS.aload X80.here hx rfl (hb hby at_96) rfl rfl ?_
  show oW p e below T80 (jj m 98 (oi p0) (oi p1) (oi p2) (oi p3) (oi kk) (oi nI) (oi s0) (oi s1) (oi s2) (oi d0) (oi d1) (oi d2) (oR b79) ou ou ou ou [(.ref b79)]) _
  refine XS.iconst X80.here hx rfl (hb hby at_98) ?_
  exact k) ?_
 obtain ⟨_, T81, L81, X81, hQ81, st81⟩ := jH X80 hx hZ hown ow27 ow28 ow30 ow29 (jaE l Z a0 hw [] (0 : Int32) cz T80.heap n0 Z80 (HB0.keep K80).2.1 hcz (Or.inl rfl)) rfl (by decide) (g := (jj m 99 (oi p0) (oi p1) (oi p2) (oi p3) (oi kk) (oi nI) (oi s0) (oi s1) (oi s2) (oi d0) (oi d1) (oi d2) (oR b79) ou ou ou ou [(.int 0), (.ref b79)])) rfl (by rw [hml]; rfl) (rest := [(.ref b79)]) rfl (lenOf jm rfl) rfl (W := 1) (Nat.le_of_eq rfl) (hb hby at_99) (by decide)
 obtain ⟨s81a, rfl, N81q, K81q, s_s81a, p81_0⟩ := hQ81
 have N81 := Fr.app N80 N81q
 have g_s81a : n0 ≤ s81a := Nat.le_trans Z80 s_s81a
 have sz_s81a : h0.size ≤ s81a := Nat.le_trans K80.1 s_s81a
 have hk81 : 0 ≤ T81.heap.size := Nat.le_trans hk80 K81q.1
 have Z81 : n0 ≤ T81.heap.size := Nat.le_trans Z80 K81q.1
 have K81 : Keep h0 T81.heap [] := K80.trans K81q all0
 refine ja st81 ?_
 obtain ⟨_, T82, L82, X82, hQ82, st82⟩ := jax X81 hx hZ hown ow55 ow56 ow58 ow57 ow59 ow3 (jdd l Z a0 hw [] b79 s81a S2' (0 : Int32) de kd T81.heap n0 Z81 ((A79.keep K80q).keep K81q) (p80_0.keep K81q nin0) g_b79 (p80_1.keep K81q nin0) (p80_2.keep K81q nin0) p81_0.2.1 ow85 (HB0.keep K81).2.2.1 (HB0.keep K81).2.2.2.2.2.2) rfl (notFace_of_selects (args := #[]) (mvT hZ ow58)) ((A79.keep K80q).keep K81q) (by decide) (g := (jj m 102 (oi p0) (oi p1) (oi p2) (oi p3) (oi kk) (oi nI) (oi s0) (oi s1) (oi s2) (oi d0) (oi d1) (oi d2) (oR b79) ou ou ou ou [(.ref s81a), (.ref b79)])) rfl (by rw [hml]; rfl) (rest := []) rfl (lenOf jv rfl) rfl (W := 0) (Nat.le_of_eq rfl) (hb hby at_102) (by decide)
 obtain ⟨e82a, k82a, rfl, N82q, K82q, s_e82a, p82_0, p82_1, p82_2, p82_3, p82_4, p82_5⟩ := hQ82
 have N82 := Fr.app N81 N82q
 have g_e82a : n0 ≤ e82a := Nat.le_trans Z81 s_e82a
 have sz_e82a : h0.size ≤ e82a := Nat.le_trans K81.1 s_e82a
 have hk82 : 0 ≤ T82.heap.size := Nat.le_trans hk81 K82q.1
 have Z82 : n0 ≤ T82.heap.size := Nat.le_trans Z81 K82q.1
 have K82 : Keep h0 T82.heap [] := K81.trans K82q (allS (Or.inr sz_b79) all0)
 refine ja st82 ?_
 refine ja (A := oW p e below T82 (jj m 109 (oi p0) (oi p1) (oi p2) (oi p3) (oi kk) (oi nI) (oi s0) (oi s1) (oi s2) (oi d0) (oi d1) (oi d2) (oR b79) ou ou ou ou [(.int 1), (.int kk)])) (fun t k => by
  refine XS.pop X82.here hx rfl (hb hby at_105) rfl rfl ?_
  refine XS.iload X82.here hx rfl (hb hby at_106) rfl ?_
  refine XS.iconst X82.here hx rfl (hb hby at_108) ?_
  exact k) ?_
 by_cases hc109_83 : (1 : Int32) < kk
 ·
  refine ja (A := oW p e below T82 (jj m 115 (oi p0) (oi p1) (oi p2) (oi p3) (oi kk) (oi nI) (oi s0) (oi s1) (oi s2) (oi d0) (oi d1) (oi d2) (oR b79) ou ou ou ou [(.int 1), (.ref b79)])) (fun t k => by
   refine XS.icmpNo X82.here hx rfl (hb hby at_109) rfl (tlt hc109_83).2.2.2 ?_
   show oW p e below T82 (jj m 112 (oi p0) (oi p1) (oi p2) (oi p3) (oi kk) (oi nI) (oi s0) (oi s1) (oi s2) (oi d0) (oi d1) (oi d2) (oR b79) ou ou ou ou []) _
   refine XS.aload X82.here hx rfl (hb hby at_112) rfl rfl ?_
   refine XS.iconst X82.here hx rfl (hb hby at_114) ?_
   exact k) ?_
  obtain ⟨_, T84, L84, X84, hQ84, st84⟩ := jH X82 hx hZ hown ow27 ow28 ow30 ow29 (jaE l Z a0 hw [] (1 : Int32) cz T82.heap n0 Z82 (HB0.keep K82).2.1 hcz (Or.inr (Or.inl rfl))) rfl (by decide) (g := (jj m 115 (oi p0) (oi p1) (oi p2) (oi p3) (oi kk) (oi nI) (oi s0) (oi s1) (oi s2) (oi d0) (oi d1) (oi d2) (oR b79) ou ou ou ou [(.int 1), (.ref b79)])) rfl (by rw [hml]; rfl) (rest := [(.ref b79)]) rfl (lenOf jm rfl) rfl (W := 1) (Nat.le_of_eq rfl) (hb hby at_115) (by decide)
  obtain ⟨s84a, rfl, N84q, K84q, s_s84a, p84_0⟩ := hQ84
  have N84 := Fr.app N82 N84q
  have g_s84a : n0 ≤ s84a := Nat.le_trans Z82 s_s84a
  have sz_s84a : h0.size ≤ s84a := Nat.le_trans K82.1 s_s84a
  have hk84 : 0 ≤ T84.heap.size := Nat.le_trans hk82 K84q.1
  have Z84 : n0 ≤ T84.heap.size := Nat.le_trans Z82 K84q.1
  have K84 : Keep h0 T84.heap [] := K82.trans K84q all0
  refine ja st84 ?_
  have g85f := (((A79.keep K80q).keep K81q).keep K82q).keep K84q
  obtain ⟨_, T86, L86, X86, hQ86, st86⟩ := jax X84 hx hZ hown ow55 ow56 ow58 ow57 ow59 ow3 (jde l Z a0 hw [] b79 s84a S2' ((0 : Int32) + (1 : Int32)) e82a k82a s81a T84.heap n0 Z84 g85f (p82_3.keep K84q nin0) g_b79 (p82_4.keep K84q nin0) (p82_5.keep K84q nin0) p84_0.2.1 ow85 (p82_0.keep K84q) p82_1 (p82_2.keep K84q nin0) g_e82a) rfl (notFace_of_selects (args := #[]) (mvT hZ ow58)) g85f (by decide) (g := (jj m 118 (oi p0) (oi p1) (oi p2) (oi p3) (oi kk) (oi nI) (oi s0) (oi s1) (oi s2) (oi d0) (oi d1) (oi d2) (oR b79) ou ou ou ou [(.ref s84a), (.ref b79)])) rfl (by rw [hml]; rfl) (rest := []) rfl (lenOf jv rfl) rfl (W := 0) (Nat.le_of_eq rfl) (hb hby at_118) (by decide)
  obtain ⟨rfl, N86q, K86q, p86_2, p86_3, p86_4, p86_5⟩ := hQ86
  have N86 := Fr.app N84 N86q
  have f86_1 := ((p81_0.keep K82q (allS ⟨_, ((A79.keep K80q).keep K81q), by decide⟩ all0)).keep K84q all0).keep K86q (allS ⟨_, g85f, by decide⟩ (allS ⟨_, (p82_0.keep K84q), by decide⟩ all0))
  have hk86 : 0 ≤ T86.heap.size := Nat.le_trans hk84 K86q.1
  have Z86 : n0 ≤ T86.heap.size := Nat.le_trans Z84 K86q.1
  have K86 : Keep h0 T86.heap [] := K84.trans K86q (allS (Or.inr sz_b79) (allS (Or.inr sz_e82a) all0))
  refine ja st86 ?_
  refine ja (A := oW p e below T86 (jj m 125 (oi p0) (oi p1) (oi p2) (oi p3) (oi kk) (oi nI) (oi s0) (oi s1) (oi s2) (oi d0) (oi d1) (oi d2) (oR b79) ou ou ou ou [(.int 2), (.int kk)])) (fun t k => by
   refine XS.pop X86.here hx rfl (hb hby at_121) rfl rfl ?_
   refine XS.iload X86.here hx rfl (hb hby at_122) rfl ?_
   refine XS.iconst X86.here hx rfl (hb hby at_124) ?_
   exact k) ?_
  by_cases hc125_87 : (2 : Int32) < kk
  ·
   refine ja (A := oW p e below T86 (jj m 131 (oi p0) (oi p1) (oi p2) (oi p3) (oi kk) (oi nI) (oi s0) (oi s1) (oi s2) (oi d0) (oi d1) (oi d2) (oR b79) ou ou ou ou [(.int 2), (.ref b79)])) (fun t k => by
    refine XS.icmpNo X86.here hx rfl (hb hby at_125) rfl (tlt hc125_87).2.2.2 ?_
    refine XS.aload X86.here hx rfl (hb hby at_128) rfl rfl ?_
    refine XS.iconst X86.here hx rfl (hb hby at_130) ?_
    exact k) ?_
   obtain ⟨_, T88, L88, X88, hQ88, st88⟩ := jH X86 hx hZ hown ow27 ow28 ow30 ow29 (jaE l Z a0 hw [] (2 : Int32) cz T86.heap n0 Z86 (HB0.keep K86).2.1 hcz (Or.inr (Or.inr rfl))) rfl (by decide) (g := (jj m 131 (oi p0) (oi p1) (oi p2) (oi p3) (oi kk) (oi nI) (oi s0) (oi s1) (oi s2) (oi d0) (oi d1) (oi d2) (oR b79) ou ou ou ou [(.int 2), (.ref b79)])) rfl (by rw [hml]; rfl) (rest := [(.ref b79)]) rfl (lenOf jm rfl) rfl (W := 1) (Nat.le_of_eq rfl) (hb hby at_131) (by decide)
   obtain ⟨s88a, rfl, N88q, K88q, s_s88a, p88_0⟩ := hQ88
   have N88 := Fr.app N86 N88q
   have g_s88a : n0 ≤ s88a := Nat.le_trans Z86 s_s88a
   have sz_s88a : h0.size ≤ s88a := Nat.le_trans K86.1 s_s88a
   have hk88 : 0 ≤ T88.heap.size := Nat.le_trans hk86 K88q.1
   have Z88 : n0 ≤ T88.heap.size := Nat.le_trans Z86 K88q.1
   have K88 : Keep h0 T88.heap [] := K86.trans K88q all0
   refine ja st88 ?_
   obtain ⟨_, T89, L89, X89, hQ89, st89⟩ := jax X88 hx hZ hown ow55 ow56 ow58 ow57 ow59 ow3 (jdf l Z a0 hw [] b79 s88a S2' (((0 : Int32) + (1 : Int32)) + (1 : Int32)) e82a k82a s81a s84a T88.heap n0 Z88 ((g85f.keep K86q).keep K88q) (p86_3.keep K88q nin0) g_b79 (p86_4.keep K88q nin0) (p86_5.keep K88q nin0) p88_0.2.1 ow85 (((p82_0.keep K84q).keep K86q).keep K88q) p82_1 (p86_2.keep K88q nin0) g_e82a) rfl (notFace_of_selects (args := #[]) (mvT hZ ow58)) ((g85f.keep K86q).keep K88q) (by decide) (g := (jj m 134 (oi p0) (oi p1) (oi p2) (oi p3) (oi kk) (oi nI) (oi s0) (oi s1) (oi s2) (oi d0) (oi d1) (oi d2) (oR b79) ou ou ou ou [(.ref s88a), (.ref b79)])) rfl (by rw [hml]; rfl) (rest := []) rfl (lenOf jv rfl) rfl (W := 0) (Nat.le_of_eq rfl) (hb hby at_134) (by decide)
   obtain ⟨rfl, N89q, K89q, p89_2, p89_3, p89_4, p89_5⟩ := hQ89
   have N89 := Fr.app N88 N89q
   have f89_4 := ((p84_0.keep K86q (allS ⟨_, g85f, by decide⟩ (allS ⟨_, (p82_0.keep K84q), by decide⟩ all0))).keep K88q all0).keep K89q (allS ⟨_, ((g85f.keep K86q).keep K88q), by decide⟩ (allS ⟨_, (((p82_0.keep K84q).keep K86q).keep K88q), by decide⟩ all0))
   have hk89 : 0 ≤ T89.heap.size := Nat.le_trans hk88 K89q.1
   have Z89 : n0 ≤ T89.heap.size := Nat.le_trans Z88 K89q.1
   have K89 : Keep h0 T89.heap [] := K88.trans K89q (allS (Or.inr sz_b79) (allS (Or.inr sz_e82a) all0))
   refine ja st89 ?_
   refine ja (A := oW p e below T89 (jj m 138 (oi p0) (oi p1) (oi p2) (oi p3) (oi kk) (oi nI) (oi s0) (oi s1) (oi s2) (oi d0) (oi d1) (oi d2) (oR b79) ou ou ou ou [])) (fun t k => by
    refine XS.pop X89.here hx rfl (hb hby at_137) rfl rfl ?_
    exact k) ?_
   have g91f := (f86_1.keep K88q all0).keep K89q (allS ⟨_, ((g85f.keep K86q).keep K88q), by decide⟩ (allS ⟨_, (((p82_0.keep K84q).keep K86q).keep K88q), by decide⟩ all0))
   have g92f := p88_0.keep K89q (allS ⟨_, ((g85f.keep K86q).keep K88q), by decide⟩ (allS ⟨_, (((p82_0.keep K84q).keep K86q).keep K88q), by decide⟩ all0))
   have g93f := (((p82_0.keep K84q).keep K86q).keep K88q).keep K89q
   have ws90 : jbP Z n0 T89.heap b79 kk := by
    rw [(jlK hk hc125_87)]
    exact ⟨(((g85f.keep K86q).keep K88q).keep K89q), e82a, k82a, [s81a, s84a, s88a], p89_4, g93f, p89_5, rfl, p89_2, fun i hi => by match i, hi with | 0, _ => exact g91f | 1, _ => exact f89_4 | 2, _ => exact g92f | j + 3, h => exact absurd h (by simp)⟩
   exact lbLA _ _ b79 _ _ _ (X89.mono (by decide) (by decide)) rfl N89 Z89 hZ hown Sn0 hk89 (HB0.keep K89) ws90 
  ·
   refine ja (A := oW p e below T86 (jj m 138 (oi p0) (oi p1) (oi p2) (oi p3) (oi kk) (oi nI) (oi s0) (oi s1) (oi s2) (oi d0) (oi d1) (oi d2) (oR b79) ou ou ou ou [])) (fun t k => by
    refine XS.icmpYes X86.here hx rfl (pc0 := 125) (pc' := 138) rfl (hb hby at_125) rfl (flt hc125_87).2.2.2 (by decide) (by decide) ?_
    exact k) ?_
   have g95f := p84_0.keep K86q (allS ⟨_, g85f, by decide⟩ (allS ⟨_, (p82_0.keep K84q), by decide⟩ all0))
   have ws94 : jbP Z n0 T86.heap b79 kk := by
    rw [(jlJ hk hc109_83 hc125_87)]
    exact ⟨(g85f.keep K86q), e82a, k82a, [s81a, s84a], p86_4, ((p82_0.keep K84q).keep K86q), p86_5, rfl, p86_2, fun i hi => by match i, hi with | 0, _ => exact f86_1 | 1, _ => exact g95f | j + 2, h => exact absurd h (by simp)⟩
   exact lbLA _ _ b79 _ _ _ (X86.mono (by decide) (by decide)) rfl N86 Z86 hZ hown Sn0 hk86 (HB0.keep K86) ws94 
 ·
  refine ja (A := oW p e below T82 (jj m 138 (oi p0) (oi p1) (oi p2) (oi p3) (oi kk) (oi nI) (oi s0) (oi s1) (oi s2) (oi d0) (oi d1) (oi d2) (oR b79) ou ou ou ou [])) (fun t k => by
   refine XS.icmpYes X82.here hx rfl (pc0 := 109) (pc' := 122) rfl (hb hby at_109) rfl (flt hc109_83).2.2.2 (by decide) (by decide) ?_
   refine XS.iload X82.here hx rfl (hb hby at_122) rfl ?_
   refine XS.iconst X82.here hx rfl (hb hby at_124) ?_
   refine XS.icmpYes X82.here hx rfl (pc0 := 125) (pc' := 138) rfl (hb hby at_125) rfl (flt (jbI.2 hc109_83)).2.2.2 (by decide) (by decide) ?_
   exact k) ?_
  have g97f := p81_0.keep K82q (allS ⟨_, ((A79.keep K80q).keep K81q), by decide⟩ all0)
  have ws96 : jbP Z n0 T82.heap b79 kk := by
   rw [(jlI hk hc109_83)]
   exact ⟨(((A79.keep K80q).keep K81q).keep K82q), e82a, k82a, [s81a], p82_4, p82_0, p82_5, rfl, p82_2, fun i hi => by match i, hi with | 0, _ => exact g97f | j + 1, h => exact absurd h (by simp)⟩
  exact lbLA _ _ b79 _ _ _ (X82.mono (by decide) (by decide)) rfl N82 Z82 hZ hown Sn0 hk82 (HB0.keep K82) ws96 
theorem jgn {args : Array Value} {s : State} {r : Jvm.Cond} : ∀ (L : List Jvm.Cond), (L.foldr Jvm.Cond.and r).before args s = true → ∀ d ∈ L, d.before args s = true
 | [], _, d, hd => nomatch hd
 | c :: L, h, d, hd => by
  rw [List.foldr_cons, Cond.before_and, Bool.and_eq_true] at h
  rcases List.mem_cons.mp hd with rfl | q
  · exact h.1
  · exact jgn L h.2 d q
theorem jjw {s : State} {args : Array Value} {t : Term} {a : Addr} {c : Cell} {ty : FieldType} {n : Int32} (ev : t.eval args s none [] s = some (.ref a)) (A : Arr s s.heap a c ty) (hl : (Term.length t).eval args s none [] s = some (.int n)) : c.slots.size < 2 ^ 31 ∧ c.slots.size.toInt32 = n := by
 have hat : s.arrayAt? a = some c := Arr.fin (State.Warmed39.refl s).alike A
 have h31 := SBG.length_lt ev hat hl
 exact ⟨h31, Value.int.inj (Option.some.inj ((len_f ev hat h31).symm.trans hl))⟩
theorem jeC {Post : Tables → Env → Array Value → State → Outcome → State → Prop} (hpost : ∀ tb e args s v u, (limb_1_1.after args s (.returned v) u = true ∧ limb_1_2.after args s (.returned v) u = true ∧ True) → ReturnedEndW s (.returned v) u (Jvm.fieldLocs frame_1_writes args s ++ Jvm.arrayLocs frame_1_arrays args s ++ Jvm.staticLocs frame_1_statics s) 112 3520 → Post tb e args s (.returned v) u) :
  ArmFor flags0 classFile x code maxLocals ret World_1 tables_1 room_1 Calls_1 rest_1 Pre_1 Post := by
 intro l hfl _ _ p e ha hc hk s m args below hf hA hF happ hP
 obtain ⟨hcalls, hrest, hpre⟩ := hP
 obtain ⟨-, -, -, hnamed, -, -, -, hat⟩ := (Spec.applies_iff hf).mp happ
 obtain ⟨hg, hn⟩ := and_e (Cond.before_iff.mp (show (Jvm.Cond.and given_1 narrow_1).before args s = true from hpre))
 obtain ⟨hg1a, hg1b⟩ := and_e hg
 obtain ⟨hg2a, hg2b⟩ := and_e hg1b
 obtain ⟨hg3a, hg3b⟩ := and_e hg2b
 obtain ⟨hg4a, hg4b⟩ := and_e hg3b
 obtain ⟨w0, w1, w2, w3, rfl⟩ : ∃ w0 w1 w2 w3 : Value, args = #[w0, w1, w2, w3] := by
  have hs : args.size = 4 := by simpa [Cond.value, given_1] using hg1a
  obtain ⟨L⟩ := args
  match L, hs with
  | [w0, w1, w2, w3], _ => exact ⟨w0, w1, w2, w3, rfl⟩
 have hw := fun d (hd : d ∈ tables_1) => atoms_spec (ws := Jvm.Cond.code x code maxLocals ret :: tables_1) hat d (List.mem_cons_of_mem _ hd)
 have hfit : Fit s := fun {y c} hc i hi => by
  obtain ⟨ha, rfl⟩ := Array.getElem?_eq_some_iff.mp hc
  have q := List.all_eq_true.mp ((Array.all_eq_true_iff_forall_mem.mp hF) _ (Array.getElem_mem ha)) i (List.mem_range.mpr hi)
  simpa [Array.getElem?_eq_getElem hi] using q
 obtain ⟨i0, ei0⟩ := is_v hg2a
 obtain rfl : w0 = (.int i0) := Option.some.inj ei0
 obtain ⟨i1, ei1⟩ := is_v hg3a
 obtain rfl : w1 = (.int i1) := Option.some.inj ei1
 obtain ⟨i2, ei2⟩ := is_v hg4a
 obtain rfl : w2 = (.int i2) := Option.some.inj ei2
 obtain ⟨i3, ei3⟩ := is_v hg4b
 obtain rfl : w3 = (.int i3) := Option.some.inj ei3
 have hj : ∀ d ∈ jdkStatics_1, d.before _ s = true := jgn jdkStatics_1 (r := restOwn_1) (by rw [← rest_1_c_eq]; exact hrest)
 obtain ⟨⟨_, _, mo, o1, o2, o3, o4⟩, ⟨_, _, ma, a1, a2, a3, a4⟩, ⟨_, _, mu, u1, u2, u3, u4⟩, ⟨_, _, mr, r1, r2, r3, r4⟩, -⟩ := hcalls
 have hmo : Mir s S4' mo := ⟨_, _, o1, o2, o3, o4⟩
 have hma : Mir s S3' ma := ⟨_, _, a1, a2, a3, a4⟩
 have hmu : Mir s S34' mu := ⟨_, _, u1, u2, u3, u4⟩
 have hmr : Mir s S45' mr := ⟨_, _, r1, r2, r3, r4⟩
 obtain ⟨cz, ecz⟩ := is_v (Cond.before_iff.mp (hj _ (List.mem_of_getElem? (i := 10) rfl)))
 have Sc0 : Sta s s.heap S2' S26' "Z" (.int cz) := Sta.start ecz (Or.inl (hj _ (List.mem_of_getElem? (i := 9) rfl)))
 have hcz : ¬ cz = (0 : Int32) := fun q => by
  have h2 := not_v (Cond.before_iff.mp (hj _ (List.mem_of_getElem? (i := 11) rfl)))
  rw [Cond.eq_ints ecz rfl, q] at h2; exact absurd h2 (by decide)
 obtain ⟨de, ede⟩ := arr_v (Cond.before_iff.mp (hj _ (List.mem_of_getElem? (i := 6) rfl)))
 obtain ⟨cld, Ade⟩ := Arr.start ede (Cond.before_iff.mp (hj _ (List.mem_of_getElem? (i := 6) rfl)))
 have Sd0 : Sta s s.heap S3' S50' S4' (.ref de) := Sta.start ede (Or.inr ⟨(hw _ (List.mem_of_getElem? (i := 3) rfl)), (hj _ (List.mem_of_getElem? (i := 2) rfl))⟩)
 obtain ⟨h31, esz⟩ := jjw ede Ade (Cond.eq_int (hj _ (List.mem_of_getElem? (i := 8) rfl)) rfl)
 have Vd0 : Arv s s.heap de cld.cls (.object S0') (0 : Int32) [] .null := Arv.start hfit Ade h31 esz (by decide) rfl trivial
 obtain ⟨em, eem⟩ := exa_v (Cond.before_iff.mp (hj _ (List.mem_of_getElem? (i := 20) rfl)))
 have Se0 : Sta s s.heap S29' "EMPTY" S9' (.ref em) := Sta.start eem (Or.inl (hj _ (List.mem_of_getElem? (i := 19) rfl)))
 have Em1 : Exa s s.heap em S0' := Exa.start eem (Cond.before_iff.mp (hj _ (List.mem_of_getElem? (i := 20) rfl)))
 have Sa0 : Sta s s.heap S10' S55' "Z" (.int 1) := Sta.start (Cond.eq_int (hj _ (List.mem_of_getElem? (i := 37) rfl)) rfl) (Or.inl (hj _ (List.mem_of_getElem? (i := 36) rfl)))
 have Si0 : Sta s s.heap S58' "high" "I" (.int 127) := Sta.start (Cond.eq_int (hj _ (List.mem_of_getElem? (i := 30) rfl)) rfl) (Or.inl (hj _ (List.mem_of_getElem? (i := 28) rfl)))
 obtain ⟨ca, eca⟩ := arr_v (Cond.before_iff.mp (hj _ (List.mem_of_getElem? (i := 31) rfl)))
 obtain ⟨clc, Ac⟩ := Arr.start eca (Cond.before_iff.mp (hj _ (List.mem_of_getElem? (i := 31) rfl)))
 have Si1 : Sta s s.heap S58' "cache" S37' (.ref ca) := Sta.start eca (Or.inr ⟨(hw _ (List.mem_of_getElem? (i := 324) rfl)), (hj _ (List.mem_of_getElem? (i := 29) rfl))⟩)
 obtain ⟨h31c, eszc⟩ := jjw eca Ac (Cond.eq_int (hj _ (List.mem_of_getElem? (i := 33) rfl)) rfl)
 have Bx := Bxs.start (val := fun j => .int (j - 128)) (fun _ => eca) Ac h31c eszc (by decide) (Cond.before_iff.mp (hj _ (List.mem_of_getElem? (i := 34) rfl))) (fun X j nn h => eqv_i (by simp [Term.eval, back32 nn]) h)
 have HI : jcd s s.heap ca := ⟨Si0, Si1, clc, Ac, Exa.start eca (Cond.before_iff.mp (hj _ (List.mem_of_getElem? (i := 32) rfl))), Bx.2.1.trans (by decide), fun j hj => by obtain ⟨b, q1, q2, q3⟩ := Bx.2.2.2 j hj; exact ⟨b, q1, q2, q3⟩⟩
 have HB0 : jfE s s.heap ca de em cld.cls cz := ⟨HI, Sc0, Sd0, Se0, Em1, Sa0, Vd0⟩
 obtain ⟨n, o, h1, h2, h3, _, L, rfl, ⟨rfl, N⟩, hq⟩ := jhX l s _ hw tables_1 i0 i1 i2 i3 ca de em cld.cls cz ma mu mr mo s.heap s.heap.size (Nat.le_refl _) HB0 hcz hma hmu hmr hmo p e ha hc hk s m _ below hf ((Spec.applies_iff_loose hf).mp happ).1 ⟨rfl, State.Warmed39.refl s, rfl⟩ trivial
 refine ⟨n, _, h1, h2, h3, hpost _ _ _ _ _ _ ⟨Cond.after_iff.mpr rfl, Cond.after_iff.mpr (eq_i res_at (Term.int_eval (1)) rfl), trivial⟩ ⟨hq.1, hq.2.1, hq.2.2.1, (hq.2.2.2.sift fun y hy => Or.inr (N y hy)).mono (by decide) (by decide)⟩⟩
theorem main_1_1 : Claimed_1_1 := jeC fun _ _ _ _ _ _ h hF => ⟨h.1, hF⟩
theorem main_1_2 : Claimed_1_2 := jeC fun _ _ _ _ _ _ h hF => ⟨h.2.1, hF⟩
end Jvm.Pilot.@@N@@
namespace Jvm.Pilot.@@N@@
open Jvm Jvm.ClassFile Sem Op Lib Jvm.Free Jvm.Stand Jvm.Pilot.@@N@@.Jvm.D
/-! MADE BY PROGRAM (witnessworld.py) out of the Statement's table words and the real class files: 58 classes; the members and pool entries that the words name. The judged class is class 1, her method 3. -/
namespace start1
open Jvm.ClassFile
def mI (a b c : Nat) : MethodInfo := { accessFlags := a, nameIndex := b, descriptorIndex := c, attributes := #[] }
def fI (a b c : Nat) : FieldInfo := { accessFlags := a, nameIndex := b, descriptorIndex := c, attributes := #[] }
def mT (n d : String) (ps : List FieldType) (r : Option FieldType) (f : Nat) (c : Option Code) : Method := { name := n, desc := d, sig := { parameters := ps, returnType := r }, accessFlags := f, code := c }
def cD (a b : Nat) (c : ByteArray) : Code := { maxStack := a, maxLocals := b, code := c, exceptionTable := #[], attributes := #[] }
def fD (n : String) (t : FieldType) (f s : Nat) : Field := { name := n, type := t, accessFlags := f, slot := s, constantValue := 0 }
def iC (n : Int32) : Cell := { cls := 38, slots := #[.int n], vm := .none }
def u (s : String) : CpInfo := .utf8 (stringToUtf16 s)
def gap : Nat → List CpInfo → List CpInfo
  | 0, r => r
  | n + 1, r => .unusable :: gap n r
def poolList (es : List (Nat × CpInfo)) (last : Nat) : List CpInfo := es.foldr (fun e r => gap e.1 (e.2 :: r)) (gap last [])
def pool (es : List (Nat × CpInfo)) (last : Nat) : Array CpInfo := ⟨poolList es last⟩
def fileOf (pool : Array CpInfo) (this : Nat) (attrs : Array Attribute := #[]) (ms : Array MethodInfo := #[]) (fl : Nat := 33) (sup : Nat := 0) (ifs : Array Nat := #[]) (fds : Array FieldInfo := #[]) : ClassFile where
  minorVersion := 0
  majorVersion := 65
  constantPool := pool
  accessFlags := fl
  thisClass := this
  superClass := sup
  interfaces := ifs
  fields := fds
  methods := ms
  attributes := attrs
def plain (name : String) (sup : Option ClassId) : Class where
  name := name
  kind := .ordinary
  loader := none
  accessFlags := 33
  super := sup
  interfaces := #[]
  cf := none
  fields := #[]
  methods := #[]
  instanceTypes := #[]
  staticTypes := #[]
  resolved := #[]
  callSites := []
  init := .initialized
  statics := none
  mirror := none
def pool0 : Array CpInfo := pool [(5, u "<init>"), (0, u "()V"), (1, .class_ 10), (1, u "java/lang/Object"), (0, u "getClass"), (0, u "()Ljava/lang/Class;"), (14, u "hashCode"), (0, u "()I"), (63, u "equals"), (0, u "(Ljava/lang/Object;)Z")] 30
def k0c0 : Code := cD 0 1 object_method_1_code
def k0m0 : Method := mT "<init>" "()V" [] none 1 (some k0c0)
def k0m1 : Method := mT "getClass" "()Ljava/lang/Class;" [] (some (.object "java/lang/Class")) 273 none
def k0m2 : Method := mT "hashCode" "()I" [] (some .int) 257 none
def k0c3 : Code := cD 2 2 object_method_1_code
def k0m3 : Method := mT "equals" "(Ljava/lang/Object;)Z" [(.object "java/lang/Object")] (some .boolean) 1 (some k0c3)
def k0 : Class := { plain "java/lang/Object" none with
  accessFlags := 33
  interfaces := #[]
  cf := some (fileOf pool0 8 #[] #[mI 1 5 6, mI 273 11 12, mI 257 27 28, mI 1 92 93] 33 0 #[] #[])
  fields := #[]
  methods := #[k0m0, k0m1, k0m2, k0m3]
  instanceTypes := #[]
  staticTypes := #[]
  resolved := Array.replicate 124 none
  statics := none }
def pool1 : Array CpInfo := pool [(2, .class_ 4), (0, .nameAndType 5 6), (0, u "java/lang/Object"), (0, u "<init>"), (0, u "()V"), (0, .methodref 8 9), (0, .class_ 10), (0, .nameAndType 11 12), (0, u "java/lang/String"), (0, u "valueOf"), (0, u "(C)Ljava/lang/String;"), (0, .integer 2147483647), (0, .class_ 15), (0, u "java/util/ArrayList"), (0, .methodref 14 3), (0, .methodref 18 19), (0, .class_ 20), (0, .nameAndType 21 22), (0, u "com/example/fimpl/fimpl/device/TileTypeIsPipSourcePinLaw"), (0, u "name"), (0, u "(I)Ljava/lang/String;"), (0, .methodref 14 24), (0, .nameAndType 25 26), (0, u "add"), (0, u "(Ljava/lang/Object;)Z"), (0, .class_ 28), (0, u "com/example/fimpl/fimpl/device/WirePair"), (0, .methodref 27 30), (0, .nameAndType 5 31), (0, u "(Ljava/lang/String;Ljava/lang/String;)V"), (0, .class_ 33), (0, u "com/example/fimpl/fimpl/device/TileType"), (0, .methodref 32 35), (0, .nameAndType 5 36), (0, u "(Ljava/lang/String;Ljava/util/List;Ljava/util/List;Ljava/util/List;)V"), (0, .methodref 32 38), (0, .nameAndType 39 40), (0, u "isPipSource"), (0, u "(I)Z"), (0, .methodref 18 42), (0, .nameAndType 43 44), (0, u "ref"), (0, u "(IIIII)Z"), (3, u "law"), (0, u "(IIII)Z")] 2
def k1m0 : Method := mT "<init>" "()V" [] none 1 none
def k1c1 : Code := cD 2 1 method_2_code
def k1m1 : Method := mT "name" "(I)Ljava/lang/String;" [.int] (some (.object "java/lang/String")) 10 (some k1c1)
def k1c2 : Code := cD 2 5 method_3_code
def k1m2 : Method := mT "ref" "(IIIII)Z" [.int, .int, .int, .int, .int] (some .boolean) 10 (some k1c2)
def k1c3 : Code := cD 6 17 code
def k1m3 : Method := mT "law" "(IIII)Z" [.int, .int, .int, .int] (some .boolean) 9 (some k1c3)
def k1 : Class := { plain "com/example/fimpl/fimpl/device/TileTypeIsPipSourcePinLaw" (some 0) with
  accessFlags := 49
  interfaces := #[]
  cf := some (fileOf pool1 18 #[] #[mI 1 5 6, mI 10 21 22, mI 10 43 44, mI 9 48 49] 49 2 #[] #[])
  fields := #[]
  methods := #[k1m0, k1m1, k1m2, k1m3]
  instanceTypes := #[]
  staticTypes := #[]
  resolved := Array.replicate 52 none
  statics := none }
def pool2 : Array CpInfo := pool [(8, .class_ 10), (1, u "java/lang/Iterable"), (24, .class_ 36), (0, u "java/lang/Object")] 25
def k2 : Class := { plain "java/lang/Iterable" (some 0) with
  accessFlags := 1537
  interfaces := #[]
  cf := some (fileOf pool2 8 #[] #[] 1537 35 #[] #[])
  fields := #[]
  methods := #[]
  instanceTypes := #[]
  staticTypes := #[]
  resolved := Array.replicate 62 none
  statics := none }
def pool3 : Array CpInfo := pool [(10, .class_ 12), (1, u "java/util/Collection"), (0, u "toArray"), (16, u "()Z"), (29, .class_ 61), (0, u "java/lang/Object"), (0, .class_ 63), (0, u "java/lang/Iterable"), (2, u "isEmpty"), (3, u "()[Ljava/lang/Object;")] 44
def k3m0 : Method := mT "isEmpty" "()Z" [] (some .boolean) 1025 none
def k3m1 : Method := mT "toArray" "()[Ljava/lang/Object;" [] (some (.array (.object "java/lang/Object"))) 1025 none
def k3 : Class := { plain "java/util/Collection" (some 0) with
  accessFlags := 1537
  interfaces := #[2]
  cf := some (fileOf pool3 10 #[] #[mI 1025 66 30, mI 1025 13 70] 1537 60 #[62] #[])
  fields := #[]
  methods := #[k3m0, k3m1]
  instanceTypes := #[]
  staticTypes := #[]
  resolved := Array.replicate 115 none
  statics := none }
def pool4 : Array CpInfo := pool [(1, .methodref 2 3), (0, .class_ 4), (0, .nameAndType 5 6), (0, u "java/lang/Object"), (0, u "<init>"), (0, u "()V"), (1, .class_ 10), (1, u "java/util/AbstractCollection"), (0, u "size"), (0, u "()I"), (64, .class_ 78), (0, u "java/util/Collection")] 81
def k4c0 : Code := cD 1 1 jdk_22_method_1_code
def k4m0 : Method := mT "<init>" "()V" [] none 4 (some k4c0)
def k4m1 : Method := mT "size" "()I" [] (some .int) 1025 none
def k4 : Class := { plain "java/util/AbstractCollection" (some 0) with
  accessFlags := 1057
  interfaces := #[3]
  cf := some (fileOf pool4 8 #[] #[mI 4 5 6, mI 1025 11 12] 1057 2 #[77] #[])
  fields := #[]
  methods := #[k4m0, k4m1]
  instanceTypes := #[]
  staticTypes := #[]
  resolved := Array.replicate 160 none
  statics := none }
def pool5 : Array CpInfo := pool [(8, .class_ 10), (1, u "java/util/SequencedCollection"), (15, .class_ 27), (0, u "java/lang/Object"), (0, .class_ 29), (0, u "java/util/Collection")] 27
def k5 : Class := { plain "java/util/SequencedCollection" (some 0) with
  accessFlags := 1537
  interfaces := #[3]
  cf := some (fileOf pool5 8 #[] #[] 1537 26 #[28] #[])
  fields := #[]
  methods := #[]
  instanceTypes := #[]
  staticTypes := #[]
  resolved := Array.replicate 57 none
  statics := none }
def pool6 : Array CpInfo := pool [(8, .class_ 10), (1, u "java/util/List"), (20, u "(Ljava/lang/Object;)V"), (16, u "<init>"), (11, u "add"), (3, u "(Ljava/lang/Object;)Z"), (10, u "get"), (0, u "(I)Ljava/lang/Object;"), (2, u "size"), (0, u "()I"), (7, u "of"), (2, .class_ 93), (1, u "java/util/ImmutableCollections"), (2, .class_ 97), (0, u "java/util/ImmutableCollections$List12"), (0, .methodref 96 99), (0, .nameAndType 48 31), (0, .methodref 96 101), (0, .nameAndType 48 102), (0, u "(Ljava/lang/Object;Ljava/lang/Object;)V"), (0, .class_ 104), (0, u "java/lang/Object"), (3, u "([Ljava/lang/Object;)Ljava/util/List;"), (0, .methodref 91 110), (0, .nameAndType 111 108), (0, u "listFromArray"), (0, .methodref 91 113), (0, .nameAndType 114 115), (0, u "listCopy"), (0, u "(Ljava/util/Collection;)Ljava/util/List;"), (4, .class_ 121), (0, u "java/util/SequencedCollection"), (1, u "iterator"), (0, u "()Ljava/util/Iterator;"), (109, u "copyOf")] 16
def k6m0 : Method := mT "size" "()I" [] (some .int) 1025 none
def k6m1 : Method := mT "iterator" "()Ljava/util/Iterator;" [] (some (.object "java/util/Iterator")) 1025 none
def k6m2 : Method := mT "add" "(Ljava/lang/Object;)Z" [(.object "java/lang/Object")] (some .boolean) 1025 none
def k6m3 : Method := mT "get" "(I)Ljava/lang/Object;" [.int] (some (.object "java/lang/Object")) 1025 none
def k6c4 : Code := cD 5 2 jdk_40_method_47_code
def k6m4 : Method := mT "of" "([Ljava/lang/Object;)Ljava/util/List;" [(.array (.object "java/lang/Object"))] (some (.object "java/util/List")) 137 (some k6c4)
def k6c5 : Code := cD 1 1 jdk_40_method_48_code
def k6m5 : Method := mT "copyOf" "(Ljava/util/Collection;)Ljava/util/List;" [(.object "java/util/Collection")] (some (.object "java/util/List")) 9 (some k6c5)
def k6 : Class := { plain "java/util/List" (some 0) with
  accessFlags := 1537
  interfaces := #[5]
  cf := some (fileOf pool6 8 #[] #[mI 1025 79 80, mI 1025 123 124, mI 1025 60 64, mI 1025 75 76, mI 137 88 108, mI 9 234 115] 1537 103 #[120] #[])
  fields := #[]
  methods := #[k6m0, k6m1, k6m2, k6m3, k6m4, k6m5]
  instanceTypes := #[]
  staticTypes := #[]
  resolved := Array.replicate 251 none
  statics := none }
def pool7 : Array CpInfo := pool [(1, .methodref 2 3), (0, .class_ 4), (0, .nameAndType 5 6), (0, u "java/util/AbstractCollection"), (0, u "<init>"), (0, u "()V"), (0, .fieldref 8 9), (0, .class_ 10), (0, .nameAndType 11 12), (0, u "java/util/AbstractList"), (0, u "modCount"), (0, u "I"), (64, .class_ 78), (0, u "java/util/AbstractList$Itr"), (3, .class_ 83), (0, u "java/util/AbstractList$ListItr"), (9, .class_ 94), (0, u "java/util/AbstractList$RandomAccessSubList"), (3, .class_ 99), (0, u "java/util/AbstractList$SubList"), (33, .class_ 134), (0, u "java/util/List"), (73, .class_ 209), (0, u "java/util/AbstractList$SubList$1"), (0, .class_ 211), (0, u "java/util/AbstractList$RandomAccessSpliterator")] 6
def k7c0 : Code := cD 2 1 jdk_39_method_1_code
def k7m0 : Method := mT "<init>" "()V" [] none 4 (some k7c0)
def k7 : Class := { plain "java/util/AbstractList" (some 4) with
  accessFlags := 1057
  interfaces := #[6]
  cf := some (fileOf pool7 8 #[.nestMembers #[93, 98, 208, 210, 82, 77]] #[mI 4 5 6] 1057 2 #[133] #[fI 132 11 12])
  fields := #[fD "modCount" .int 132 0]
  methods := #[k7m0]
  instanceTypes := #[.int]
  staticTypes := #[]
  resolved := Array.replicate 218 none
  statics := none }
def pool8 : Array CpInfo := pool [(1, .class_ 2), (0, u "java/util/RandomAccess"), (0, .class_ 4), (0, u "java/lang/Object")] 2
def k8 : Class := { plain "java/util/RandomAccess" (some 0) with
  accessFlags := 1537
  interfaces := #[]
  cf := some (fileOf pool8 1 #[] #[] 1537 3 #[] #[])
  fields := #[]
  methods := #[]
  instanceTypes := #[]
  staticTypes := #[]
  resolved := Array.replicate 7 none
  statics := none }
def pool9 : Array CpInfo := pool [(1, .class_ 2), (0, u "java/lang/Cloneable"), (0, .class_ 4), (0, u "java/lang/Object")] 2
def k9 : Class := { plain "java/lang/Cloneable" (some 0) with
  accessFlags := 1537
  interfaces := #[]
  cf := some (fileOf pool9 1 #[] #[] 1537 3 #[] #[])
  fields := #[]
  methods := #[]
  instanceTypes := #[]
  staticTypes := #[]
  resolved := Array.replicate 7 none
  statics := none }
def pool10 : Array CpInfo := pool [(1, .class_ 2), (0, u "java/io/Serializable"), (0, .class_ 4), (0, u "java/lang/Object")] 2
def k10 : Class := { plain "java/io/Serializable" (some 0) with
  accessFlags := 1537
  interfaces := #[]
  cf := some (fileOf pool10 1 #[] #[] 1537 3 #[] #[])
  fields := #[]
  methods := #[]
  instanceTypes := #[]
  staticTypes := #[]
  resolved := Array.replicate 7 none
  statics := none }
def pool11 : Array CpInfo := pool [(1, .methodref 2 3), (0, .class_ 4), (0, .nameAndType 5 6), (0, u "java/util/AbstractList"), (0, u "<init>"), (0, u "()V"), (0, .class_ 8), (0, u "java/lang/Object"), (0, .fieldref 10 11), (0, .class_ 12), (0, .nameAndType 13 14), (0, u "java/util/ArrayList"), (0, u "elementData"), (0, u "[Ljava/lang/Object;"), (2, u "EMPTY_ELEMENTDATA"), (21, .fieldref 10 40), (0, .nameAndType 41 14), (0, u "DEFAULTCAPACITY_EMPTY_ELEMENTDATA"), (4, u "toArray"), (0, u "()[Ljava/lang/Object;"), (0, .fieldref 10 49), (0, .nameAndType 50 51), (0, u "size"), (0, u "I"), (6, .class_ 60), (1, u "java/util/Arrays"), (0, u "copyOf"), (1, .fieldref 10 64), (0, .nameAndType 65 51), (0, u "modCount"), (0, .methodref 58 67), (0, .nameAndType 61 68), (0, u "([Ljava/lang/Object;I)[Ljava/lang/Object;"), (0, .methodref 10 70), (0, .nameAndType 71 72), (0, u "grow"), (0, u "(I)[Ljava/lang/Object;"), (6, .methodref 80 81), (0, .class_ 82), (0, .nameAndType 83 84), (0, u "java/lang/Math"), (0, u "max"), (0, u "(II)I"), (11, u "(Ljava/lang/Object;)Z"), (21, .methodref 119 120), (0, .class_ 121), (0, .nameAndType 122 84), (0, u "java/util/Objects"), (0, u "checkIndex"), (0, .methodref 10 124), (0, .nameAndType 13 125), (0, u "(I)Ljava/lang/Object;"), (3, .methodref 10 130), (0, .nameAndType 71 47), (0, .methodref 10 132), (0, .nameAndType 133 134), (0, u "add"), (0, u "(Ljava/lang/Object;[Ljava/lang/Object;I)V"), (13, .class_ 149), (0, u "java/util/List"), (16, u "iterator"), (0, u "()Ljava/util/Iterator;"), (5, u "()Z"), (12, u "()I"), (75, .class_ 263), (0, u "java/util/ArrayList$ListItr"), (3, .class_ 268), (0, u "java/util/ArrayList$Itr"), (0, .methodref 267 270), (0, .nameAndType 5 271), (0, u "(Ljava/util/ArrayList;)V"), (4, .class_ 277), (0, u "java/util/ArrayList$SubList"), (12, .class_ 291), (0, u "java/util/ArrayList$ArrayListSpliterator"), (37, .class_ 330), (0, u "java/util/RandomAccess"), (0, .class_ 332), (0, u "java/lang/Cloneable"), (0, .class_ 334), (0, u "java/io/Serializable"), (0, u "serialVersionUID"), (0, u "J"), (3, u "DEFAULT_CAPACITY"), (22, u "isEmpty"), (17, u "get"), (118, .class_ 501), (0, u "java/util/ArrayList$SubList$2"), (0, .class_ 503), (0, u "java/util/ArrayList$SubList$1")] 5
def k11c0 : Code := cD 2 1 jdk_38_method_2_code
def k11m0 : Method := mT "<init>" "()V" [] none 1 (some k11c0)
def k11c1 : Code := cD 4 4 jdk_38_method_6_code
def k11m1 : Method := mT "grow" "(I)[Ljava/lang/Object;" [.int] (some (.array (.object "java/lang/Object"))) 2 (some k11c1)
def k11c2 : Code := cD 3 1 jdk_38_method_7_code
def k11m2 : Method := mT "grow" "()[Ljava/lang/Object;" [] (some (.array (.object "java/lang/Object"))) 2 (some k11c2)
def k11c3 : Code := cD 1 1 jdk_38_method_8_code
def k11m3 : Method := mT "size" "()I" [] (some .int) 1 (some k11c3)
def k11c4 : Code := cD 1 1 jdk_38_method_9_code
def k11m4 : Method := mT "isEmpty" "()Z" [] (some .boolean) 1 (some k11c4)
def k11c5 : Code := cD 2 1 jdk_38_method_16_code
def k11m5 : Method := mT "toArray" "()[Ljava/lang/Object;" [] (some (.array (.object "java/lang/Object"))) 1 (some k11c5)
def k11c6 : Code := cD 2 2 jdk_38_method_18_code
def k11m6 : Method := mT "elementData" "(I)Ljava/lang/Object;" [.int] (some (.object "java/lang/Object")) 0 (some k11c6)
def k11c7 : Code := cD 2 2 jdk_38_method_20_code
def k11m7 : Method := mT "get" "(I)Ljava/lang/Object;" [.int] (some (.object "java/lang/Object")) 1 (some k11c7)
def k11c8 : Code := cD 3 4 jdk_38_method_24_code
def k11m8 : Method := mT "add" "(Ljava/lang/Object;[Ljava/lang/Object;I)V" [(.object "java/lang/Object"), (.array (.object "java/lang/Object")), .int] none 2 (some k11c8)
def k11c9 : Code := cD 4 2 jdk_38_method_25_code
def k11m9 : Method := mT "add" "(Ljava/lang/Object;)Z" [(.object "java/lang/Object")] (some .boolean) 1 (some k11c9)
def k11c10 : Code := cD 3 1 jdk_38_method_55_code
def k11m10 : Method := mT "iterator" "()Ljava/util/Iterator;" [] (some (.object "java/util/Iterator")) 1 (some k11c10)
def k11 : Class := { plain "java/util/ArrayList" (some 7) with
  accessFlags := 33
  interfaces := #[6, 8, 9, 10]
  cf := some (fileOf pool11 10 #[.nestMembers #[290, 276, 500, 502, 262, 267]] #[mI 1 5 6, mI 2 71 72, mI 2 71 47, mI 1 50 186, mI 1 363 173, mI 1 46 47, mI 0 13 125, mI 1 381 125, mI 2 133 134, mI 1 133 96, mI 1 166 167] 33 2 #[148, 329, 331, 333] #[fI 26 335 336, fI 26 340 51, fI 26 17 14, fI 26 41 14, fI 128 13 14, fI 2 50 51])
  fields := #[fD "serialVersionUID" .long 26 0, fD "DEFAULT_CAPACITY" .int 26 1, fD "EMPTY_ELEMENTDATA" (.array (.object "java/lang/Object")) 26 2, fD "DEFAULTCAPACITY_EMPTY_ELEMENTDATA" (.array (.object "java/lang/Object")) 26 3, fD "elementData" (.array (.object "java/lang/Object")) 128 1, fD "size" .int 2 2]
  methods := #[k11m0, k11m1, k11m2, k11m3, k11m4, k11m5, k11m6, k11m7, k11m8, k11m9, k11m10]
  instanceTypes := #[.int, (.array (.object "java/lang/Object")), .int]
  staticTypes := #[.long, .int, (.array (.object "java/lang/Object")), (.array (.object "java/lang/Object"))]
  resolved := Array.replicate 509 none
  mirror := some 7
  statics := some 0 }
def pool12 : Array CpInfo := pool [(1, .class_ 2), (0, u "java/lang/Comparable"), (0, .class_ 4), (0, u "java/lang/Object")] 7
def k12 : Class := { plain "java/lang/Comparable" (some 0) with
  accessFlags := 1537
  interfaces := #[]
  cf := some (fileOf pool12 1 #[] #[] 1537 3 #[] #[])
  fields := #[]
  methods := #[]
  instanceTypes := #[]
  staticTypes := #[]
  resolved := Array.replicate 12 none
  statics := none }
def pool13 : Array CpInfo := pool [(2, .class_ 4), (1, u "java/lang/CharSequence"), (42, .class_ 48), (0, u "java/lang/CharSequence$1CodePointIterator"), (10, .class_ 60), (0, u "java/lang/CharSequence$1CharIterator"), (5, .class_ 67), (0, u "java/lang/Object")] 63
def k13 : Class := { plain "java/lang/CharSequence" (some 0) with
  accessFlags := 1537
  interfaces := #[]
  cf := some (fileOf pool13 2 #[.nestMembers #[47, 59]] #[] 1537 66 #[] #[])
  fields := #[]
  methods := #[]
  instanceTypes := #[]
  staticTypes := #[]
  resolved := Array.replicate 131 none
  statics := none }
def pool14 : Array CpInfo := pool [(1, .class_ 2), (0, u "java/lang/constant/Constable"), (0, .class_ 4), (0, u "java/lang/Object")] 6
def k14 : Class := { plain "java/lang/constant/Constable" (some 0) with
  accessFlags := 1537
  interfaces := #[]
  cf := some (fileOf pool14 1 #[] #[] 1537 3 #[] #[])
  fields := #[]
  methods := #[]
  instanceTypes := #[]
  staticTypes := #[]
  resolved := Array.replicate 11 none
  statics := none }
def pool15 : Array CpInfo := pool [(1, .class_ 2), (0, u "java/lang/constant/ConstantDesc"), (0, .class_ 4), (0, u "java/lang/Object")] 32
def k15 : Class := { plain "java/lang/constant/ConstantDesc" (some 0) with
  accessFlags := 1537
  interfaces := #[]
  cf := some (fileOf pool15 1 #[] #[] 1537 3 #[] #[])
  fields := #[]
  methods := #[]
  instanceTypes := #[]
  staticTypes := #[]
  resolved := Array.replicate 37 none
  statics := none }
def pool16 : Array CpInfo := pool [(1, .methodref 2 3), (0, .class_ 4), (0, .nameAndType 5 6), (0, u "java/lang/Object"), (0, u "<init>"), (0, u "()V"), (2, .fieldref 10 11), (0, .class_ 12), (0, .nameAndType 13 14), (0, u "java/lang/String"), (0, u "value"), (0, u "[B"), (0, .fieldref 10 16), (0, .nameAndType 17 18), (0, u "coder"), (0, u "B"), (0, .fieldref 10 20), (0, .nameAndType 21 22), (0, u "hash"), (0, u "I"), (0, .fieldref 10 24), (0, .nameAndType 25 26), (0, u "hashIsZero"), (0, u "Z"), (11, .fieldref 10 39), (0, .nameAndType 40 26), (0, u "COMPACT_STRINGS"), (12, u "toBytes"), (53, .class_ 109), (1, u "java/lang/StringLatin1"), (32, u "()Z"), (66, .methodref 10 210), (0, .nameAndType 5 211), (0, u "([BB)V"), (122, u "()I"), (34, u "(C)Z"), (122, .methodref 10 493), (0, .nameAndType 494 142), (0, u "isLatin1"), (46, .methodref 107 542), (0, .nameAndType 543 544), (0, u "equals"), (0, u "([B[B)Z"), (28, u "(Ljava/lang/Object;)Z"), (1, .class_ 576), (0, u "java/lang/CharSequence"), (22, u "CASE_INSENSITIVE_ORDER"), (0, u "Ljava/util/Comparator;"), (27, .methodref 107 629), (0, .nameAndType 630 631), (0, u "hashCode"), (0, u "([B)I"), (150, u "valueOf"), (0, u "(C)Ljava/lang/String;"), (231, .methodref 107 1016), (0, .nameAndType 1017 369), (0, u "canEncode"), (0, .methodref 107 1019), (0, .nameAndType 53 1020), (0, u "(C)[B"), (80, u "serialPersistentFields"), (0, u "[Ljava/io/ObjectStreamField;"), (0, .class_ 1104), (0, u "java/lang/String$CaseInsensitiveComparator"), (1, .class_ 1107), (0, u "java/io/Serializable"), (0, .class_ 1109), (0, u "java/lang/Comparable"), (0, .class_ 1111), (0, u "java/lang/constant/Constable"), (0, .class_ 1113), (0, u "java/lang/constant/ConstantDesc"), (2, u "serialVersionUID"), (0, u "J"), (3, u "REPL"), (0, u "C"), (2, u "LATIN1"), (1, u "UTF16")] 323
def k16m0 : Method := mT "<init>" "()V" [] none 1 none
def k16c1 : Code := cD 2 3 jdk_42_method_66_code
def k16m1 : Method := mT "equals" "(Ljava/lang/Object;)Z" [(.object "java/lang/Object")] (some .boolean) 1 (some k16c1)
def k16c2 : Code := cD 2 2 jdk_42_method_78_code
def k16m2 : Method := mT "hashCode" "()I" [] (some .int) 1 (some k16c2)
def k16c3 : Code := cD 4 1 jdk_42_method_139_code
def k16m3 : Method := mT "valueOf" "(C)Ljava/lang/String;" [.char] (some (.object "java/lang/String")) 9 (some k16c3)
def k16c4 : Code := cD 2 3 jdk_42_method_151_code
def k16m4 : Method := mT "<init>" "([BB)V" [(.array .byte), .byte] none 0 (some k16c4)
def k16c5 : Code := cD 1 1 jdk_42_method_154_code
def k16m5 : Method := mT "isLatin1" "()Z" [] (some .boolean) 0 (some k16c5)
def k16 : Class := { plain "java/lang/String" (some 0) with
  accessFlags := 49
  interfaces := #[10, 12, 13, 14, 15]
  cf := some (fileOf pool16 10 #[.nestMembers #[1103]] #[mI 1 5 6, mI 1 543 573, mI 1 630 334, mI 9 782 783, mI 0 5 211, mI 0 494 142] 49 2 #[1106, 1108, 575, 1110, 1112] #[fI 18 13 14, fI 18 17 18, fI 2 21 22, fI 2 25 26, fI 26 1116 1117, fI 24 40 26, fI 26 1101 1102, fI 26 1121 1122, fI 25 599 600, fI 24 1125 18, fI 24 1127 18])
  fields := #[fD "value" (.array .byte) 18 0, fD "coder" .byte 18 1, fD "hash" .int 2 2, fD "hashIsZero" .boolean 2 3, fD "serialVersionUID" .long 26 0, fD "COMPACT_STRINGS" .boolean 24 1, fD "serialPersistentFields" (.array (.object "java/io/ObjectStreamField")) 26 2, fD "REPL" .char 26 3, fD "CASE_INSENSITIVE_ORDER" (.object "java/util/Comparator") 25 4, fD "LATIN1" .byte 24 5, fD "UTF16" .byte 24 6]
  methods := #[k16m0, k16m1, k16m2, k16m3, k16m4, k16m5]
  instanceTypes := #[(.array .byte), .byte, .int, .boolean]
  staticTypes := #[.long, .boolean, (.array (.object "java/io/ObjectStreamField")), .char, (.object "java/util/Comparator"), .byte, .byte]
  resolved := Array.replicate 1451 none
  statics := some 1 }
def pool17 : Array CpInfo := pool [(4, .class_ 6), (1, u "java/lang/Object"), (0, u "<init>"), (0, u "()V"), (5, .class_ 16), (1, u "java/lang/StringLatin1"), (40, u "([B)I"), (32, u "canEncode"), (14, u "(C)Z"), (15, u "$assertionsDisabled"), (0, u "Z"), (98, .class_ 223), (1, u "java/lang/StringLatin1$LinesSpliterator"), (57, u "equals"), (0, u "([B[B)Z"), (15, u "hashCode"), (81, u "toBytes"), (1, u "(C)[B"), (7, .class_ 391), (0, u "java/lang/StringLatin1$CharsSpliterator")] 3
def k17m0 : Method := mT "<init>" "()V" [] none 0 none
def k17c1 : Code := cD 2 1 jdk_43_method_3_code
def k17m1 : Method := mT "canEncode" "(C)Z" [.char] (some .boolean) 9 (some k17c1)
def k17c2 : Code := cD 3 3 jdk_43_method_13_code
def k17m2 : Method := mT "equals" "([B[B)Z" [(.array .byte), (.array .byte)] (some .boolean) 9 (some k17c2)
def k17c3 : Code := cD 5 1 jdk_43_method_21_code
def k17m3 : Method := mT "hashCode" "([B)I" [(.array .byte)] (some .int) 9 (some k17c3)
def k17c4 : Code := cD 4 1 jdk_43_method_46_code
def k17m4 : Method := mT "toBytes" "(C)[B" [.char] (some (.array .byte)) 9 (some k17c4)
def k17 : Class := { plain "java/lang/StringLatin1" (some 0) with
  accessFlags := 48
  interfaces := #[]
  cf := some (fileOf pool17 14 #[.nestMembers #[390, 221]] #[mI 0 7 8, mI 9 90 105, mI 9 281 282, mI 9 298 57, mI 9 380 382] 48 4 #[] #[fI 4120 121 122])
  fields := #[fD "$assertionsDisabled" .boolean 4120 0]
  methods := #[k17m0, k17m1, k17m2, k17m3, k17m4]
  instanceTypes := #[]
  staticTypes := #[.boolean]
  resolved := Array.replicate 395 none
  statics := none }
def pool18 : Array CpInfo := pool [(1, .class_ 2), (0, u "java/lang/Math"), (1, .class_ 6), (1, u "java/lang/Object"), (0, u "<init>"), (0, u "()V"), (89, .class_ 100), (1, u "java/lang/Math$RandomNumberGeneratorHolder"), (71, u "negativeZeroFloatBits"), (0, u "J"), (2, u "negativeZeroDoubleBits"), (21, u "max"), (2, u "min"), (43, u "$assertionsDisabled"), (0, u "Z"), (88, u "(II)I"), (2, u "twoToTheDoubleScaleDown"), (0, u "D"), (4, u "twoToTheDoubleScaleUp"), (9, u "E"), (3, u "PI"), (2, u "TAU"), (2, u "DEGREES_TO_RADIANS"), (0, u "RADIANS_TO_DEGREES")] 94
def k18m0 : Method := mT "<init>" "()V" [] none 2 none
def k18c1 : Code := cD 2 2 jdk_29_method_65_code
def k18m1 : Method := mT "max" "(II)I" [.int, .int] (some .int) 9 (some k18c1)
def k18c2 : Code := cD 2 2 jdk_29_method_69_code
def k18m2 : Method := mT "min" "(II)I" [.int, .int] (some .int) 9 (some k18c2)
def k18 : Class := { plain "java/lang/Math" (some 0) with
  accessFlags := 49
  interfaces := #[]
  cf := some (fileOf pool18 1 #[.nestMembers #[98]] #[mI 2 7 8, mI 9 198 335, mI 9 201 335] 49 4 #[] #[fI 25 354 339, fI 25 358 339, fI 25 361 339, fI 26 364 339, fI 26 365 339, fI 26 172 173, fI 26 176 173, fI 8 344 339, fI 8 338 339, fI 4120 245 246])
  fields := #[fD "E" .double 25 0, fD "PI" .double 25 1, fD "TAU" .double 25 2, fD "DEGREES_TO_RADIANS" .double 26 3, fD "RADIANS_TO_DEGREES" .double 26 4, fD "negativeZeroFloatBits" .long 26 5, fD "negativeZeroDoubleBits" .long 26 6, fD "twoToTheDoubleScaleUp" .double 8 7, fD "twoToTheDoubleScaleDown" .double 8 8, fD "$assertionsDisabled" .boolean 4120 9]
  methods := #[k18m0, k18m1, k18m2]
  instanceTypes := #[]
  staticTypes := #[.double, .double, .double, .double, .double, .long, .long, .double, .double, .boolean]
  resolved := Array.replicate 460 none
  statics := none }
def pool19 : Array CpInfo := pool [(1, .methodref 2 3), (0, .class_ 4), (0, .nameAndType 5 6), (0, u "java/lang/Object"), (0, u "<init>"), (0, u "()V"), (0, .class_ 8), (0, u "java/lang/Record")] 13
def k19c0 : Code := cD 1 1 jdk_30_method_1_code
def k19m0 : Method := mT "<init>" "()V" [] none 4 (some k19c0)
def k19 : Class := { plain "java/lang/Record" (some 0) with
  accessFlags := 1057
  interfaces := #[]
  cf := some (fileOf pool19 7 #[] #[mI 4 5 6] 1057 2 #[] #[])
  fields := #[]
  methods := #[k19m0]
  instanceTypes := #[]
  staticTypes := #[]
  resolved := Array.replicate 22 none
  statics := none }
def pool20 : Array CpInfo := pool [(1, .methodref 2 3), (0, .class_ 4), (0, .nameAndType 5 6), (0, u "java/lang/Record"), (0, u "<init>"), (0, u "()V"), (0, .string 8), (0, u "source"), (0, .methodref 10 11), (0, .class_ 12), (0, .nameAndType 13 14), (0, u "java/util/Objects"), (0, u "requireNonNull"), (0, u "(Ljava/lang/Object;Ljava/lang/String;)Ljava/lang/Object;"), (0, .string 16), (0, u "destination"), (0, .fieldref 18 19), (0, .class_ 20), (0, .nameAndType 8 21), (0, u "com/example/fimpl/fimpl/device/WirePair"), (0, u "Ljava/lang/String;"), (0, .fieldref 18 23), (0, .nameAndType 16 21), (12, u "(Ljava/lang/String;Ljava/lang/String;)V"), (3, u "()Ljava/lang/String;")] 23
def k20c0 : Code := cD 2 3 prog_45_method_1_code
def k20m0 : Method := mT "<init>" "(Ljava/lang/String;Ljava/lang/String;)V" [(.object "java/lang/String"), (.object "java/lang/String")] none 1 (some k20c0)
def k20c1 : Code := cD 1 1 prog_45_method_5_code
def k20m1 : Method := mT "source" "()Ljava/lang/String;" [] (some (.object "java/lang/String")) 1 (some k20c1)
def k20c2 : Code := cD 1 1 prog_45_method_6_code
def k20m2 : Method := mT "destination" "()Ljava/lang/String;" [] (some (.object "java/lang/String")) 1 (some k20c2)
def k20 : Class := { plain "com/example/fimpl/fimpl/device/WirePair" (some 19) with
  accessFlags := 49
  interfaces := #[]
  cf := some (fileOf pool20 18 #[] #[mI 1 5 36, mI 1 8 40, mI 1 16 40] 49 2 #[] #[fI 18 8 21, fI 18 16 21])
  fields := #[fD "source" (.object "java/lang/String") 18 0, fD "destination" (.object "java/lang/String") 18 1]
  methods := #[k20m0, k20m1, k20m2]
  instanceTypes := #[(.object "java/lang/String"), (.object "java/lang/String")]
  staticTypes := #[]
  resolved := Array.replicate 64 none
  statics := none }
def pool21 : Array CpInfo := pool [(2, .class_ 4), (1, u "java/lang/Object"), (0, u "<init>"), (0, u "()V"), (35, .class_ 44), (1, u "java/util/Objects"), (0, u "requireNonNull"), (0, u "(Ljava/lang/Object;)Ljava/lang/Object;"), (47, u "(Ljava/lang/Object;Ljava/lang/String;)Ljava/lang/Object;"), (10, .methodref 106 107), (0, .class_ 108), (0, .nameAndType 109 110), (0, u "jdk/internal/util/Preconditions"), (0, u "checkIndex"), (0, u "(IILjava/util/function/BiFunction;)I"), (60, u "(II)I")] 12
def k21m0 : Method := mT "<init>" "()V" [] none 2 none
def k21c1 : Code := cD 2 1 jdk_31_method_10_code
def k21m1 : Method := mT "requireNonNull" "(Ljava/lang/Object;)Ljava/lang/Object;" [(.object "java/lang/Object")] (some (.object "java/lang/Object")) 9 (some k21c1)
def k21c2 : Code := cD 3 2 jdk_31_method_11_code
def k21m2 : Method := mT "requireNonNull" "(Ljava/lang/Object;Ljava/lang/String;)Ljava/lang/Object;" [(.object "java/lang/Object"), (.object "java/lang/String")] (some (.object "java/lang/Object")) 9 (some k21c2)
def k21c3 : Code := cD 3 2 jdk_31_method_17_code
def k21m3 : Method := mT "checkIndex" "(II)I" [.int, .int] (some .int) 9 (some k21c3)
def k21 : Class := { plain "java/util/Objects" (some 0) with
  accessFlags := 49
  interfaces := #[]
  cf := some (fileOf pool21 42 #[] #[mI 2 5 6, mI 9 45 46, mI 9 45 94, mI 9 109 171] 49 2 #[] #[])
  fields := #[]
  methods := #[k21m0, k21m1, k21m2, k21m3]
  instanceTypes := #[]
  staticTypes := #[]
  resolved := Array.replicate 184 none
  statics := none }
def pool22 : Array CpInfo := pool [(1, .methodref 2 3), (0, .class_ 4), (0, .nameAndType 5 6), (0, u "java/lang/Object"), (0, u "<init>"), (0, u "()V"), (0, .class_ 8), (0, u "java/util/HashMap"), (0, .methodref 7 3), (0, .fieldref 11 12), (0, .class_ 13), (0, .nameAndType 14 15), (0, u "com/example/fimpl/fimpl/device/TileType"), (0, u "wireNumbers"), (0, u "Ljava/util/Map;"), (0, .class_ 17), (0, u "java/util/BitSet"), (0, .methodref 16 3), (0, .fieldref 11 20), (0, .nameAndType 21 22), (0, u "pipDestinationWires"), (0, u "Ljava/util/BitSet;"), (0, .string 24), (0, u "name"), (0, .methodref 26 27), (0, .class_ 28), (0, .nameAndType 29 30), (0, u "java/util/Objects"), (0, u "requireNonNull"), (0, u "(Ljava/lang/Object;Ljava/lang/String;)Ljava/lang/Object;"), (0, .class_ 32), (0, u "java/lang/String"), (0, .fieldref 11 34), (0, .nameAndType 24 35), (0, u "Ljava/lang/String;"), (0, .interfaceMethodref 37 38), (0, .class_ 39), (0, .nameAndType 40 41), (0, u "java/util/List"), (0, u "copyOf"), (0, u "(Ljava/util/Collection;)Ljava/util/List;"), (0, .fieldref 11 43), (0, .nameAndType 44 45), (0, u "wires"), (0, u "Ljava/util/List;"), (0, .interfaceMethodref 37 47), (0, .nameAndType 48 49), (0, u "iterator"), (0, u "()Ljava/util/Iterator;"), (0, .interfaceMethodref 51 52), (0, .class_ 53), (0, .nameAndType 54 55), (0, u "java/util/Iterator"), (0, u "hasNext"), (0, u "()Z"), (0, .interfaceMethodref 51 57), (0, .nameAndType 58 59), (0, u "next"), (0, u "()Ljava/lang/Object;"), (0, .interfaceMethodref 61 62), (0, .class_ 63), (0, .nameAndType 64 65), (0, u "java/util/Map"), (0, u "size"), (0, u "()I"), (0, .methodref 67 68), (0, .class_ 69), (0, .nameAndType 70 71), (0, u "java/lang/Integer"), (0, u "valueOf"), (0, u "(I)Ljava/lang/Integer;"), (0, .interfaceMethodref 61 73), (0, .nameAndType 74 75), (0, u "putIfAbsent"), (0, u "(Ljava/lang/Object;Ljava/lang/Object;)Ljava/lang/Object;"), (9, .interfaceMethodref 37 62), (0, .fieldref 11 87), (0, .nameAndType 88 89), (0, u "pipSources"), (0, u "[I"), (0, .fieldref 11 91), (0, .nameAndType 92 89), (0, u "pipDestinations"), (0, .interfaceMethodref 37 94), (0, .nameAndType 95 96), (0, u "get"), (0, u "(I)Ljava/lang/Object;"), (0, .class_ 98), (0, u "com/example/fimpl/fimpl/device/WirePair"), (0, .methodref 97 100), (0, .nameAndType 101 102), (0, u "source"), (0, u "()Ljava/lang/String;"), (0, .methodref 11 104), (0, .nameAndType 105 106), (0, u "wire"), (0, u "(Ljava/lang/String;)I"), (0, .methodref 97 108), (0, .nameAndType 109 102), (0, u "destination"), (3, .methodref 16 114), (0, .nameAndType 115 116), (0, u "set"), (0, u "(I)V"), (0, .fieldref 11 118), (0, .nameAndType 119 89), (0, u "pipsFromStarts"), (0, .fieldref 11 121), (0, .nameAndType 122 89), (0, u "pipsFrom"), (0, .methodref 124 125), (0, .class_ 126), (0, .nameAndType 40 127), (0, u "java/util/Arrays"), (0, u "([II)[I"), (0, .class_ 129), (0, u "java/util/ArrayList"), (0, .methodref 128 3), (43, .interfaceMethodref 37 175), (0, .nameAndType 176 177), (0, u "add"), (0, u "(Ljava/lang/Object;)Z"), (0, .methodref 179 180), (0, .class_ 181), (0, .nameAndType 182 183), (0, u "java/util/Collections"), (0, u "unmodifiableList"), (0, u "(Ljava/util/List;)Ljava/util/List;"), (0, .fieldref 11 185), (0, .nameAndType 186 45), (0, u "sites"), (0, .interfaceMethodref 61 188), (0, .nameAndType 189 75), (0, u "getOrDefault"), (0, .methodref 67 191), (0, .nameAndType 192 65), (0, u "intValue"), (10, u "(I)Z"), (7, u "(Ljava/lang/String;Ljava/util/List;Ljava/util/List;Ljava/util/List;)V"), (13, u "isPipSource")] 30
def k22c0 : Code := cD 8 11 prog_42_method_1_code
def k22m0 : Method := mT "<init>" "(Ljava/lang/String;Ljava/util/List;Ljava/util/List;Ljava/util/List;)V" [(.object "java/lang/String"), (.object "java/util/List"), (.object "java/util/List"), (.object "java/util/List")] none 1 (some k22c0)
def k22c1 : Code := cD 3 2 prog_42_method_5_code
def k22m1 : Method := mT "wire" "(Ljava/lang/String;)I" [(.object "java/lang/String")] (some .int) 1 (some k22c1)
def k22c2 : Code := cD 3 2 prog_42_method_10_code
def k22m2 : Method := mT "isPipSource" "(I)Z" [.int] (some .boolean) 1 (some k22c2)
def k22 : Class := { plain "com/example/fimpl/fimpl/device/TileType" (some 0) with
  accessFlags := 33
  interfaces := #[]
  cf := some (fileOf pool22 11 #[] #[mI 1 5 211, mI 1 105 106, mI 1 225 203] 33 2 #[] #[fI 18 24 35, fI 18 44 45, fI 18 14 15, fI 18 88 89, fI 18 92 89, fI 18 122 89, fI 18 119 89, fI 18 21 22, fI 18 186 45])
  fields := #[fD "name" (.object "java/lang/String") 18 0, fD "wires" (.object "java/util/List") 18 1, fD "wireNumbers" (.object "java/util/Map") 18 2, fD "pipSources" (.array .int) 18 3, fD "pipDestinations" (.array .int) 18 4, fD "pipsFrom" (.array .int) 18 5, fD "pipsFromStarts" (.array .int) 18 6, fD "pipDestinationWires" (.object "java/util/BitSet") 18 7, fD "sites" (.object "java/util/List") 18 8]
  methods := #[k22m0, k22m1, k22m2]
  instanceTypes := #[(.object "java/lang/String"), (.object "java/util/List"), (.object "java/util/Map"), (.array .int), (.array .int), (.array .int), (.array .int), (.object "java/util/BitSet"), (.object "java/util/List")]
  staticTypes := #[]
  resolved := Array.replicate 256 none
  statics := none }
def pool23 : Array CpInfo := pool [(2, .class_ 4), (1, u "java/util/Map"), (31, .class_ 37), (0, u "java/util/Map$Entry"), (25, u "(Ljava/lang/Object;Ljava/lang/Object;)Ljava/lang/Object;"), (29, .class_ 94), (0, u "java/lang/Object"), (25, u "size"), (0, u "()I"), (16, u "getOrDefault"), (33, u "putIfAbsent")] 90
def k23m0 : Method := mT "size" "()I" [] (some .int) 1025 none
def k23c1 : Code := cD 2 4 object_method_1_code
def k23m1 : Method := mT "getOrDefault" "(Ljava/lang/Object;Ljava/lang/Object;)Ljava/lang/Object;" [(.object "java/lang/Object"), (.object "java/lang/Object")] (some (.object "java/lang/Object")) 1 (some k23c1)
def k23c2 : Code := cD 3 4 object_method_1_code
def k23m2 : Method := mT "putIfAbsent" "(Ljava/lang/Object;Ljava/lang/Object;)Ljava/lang/Object;" [(.object "java/lang/Object"), (.object "java/lang/Object")] (some (.object "java/lang/Object")) 1 (some k23c2)
def k23 : Class := { plain "java/util/Map" (some 0) with
  accessFlags := 1537
  interfaces := #[]
  cf := some (fileOf pool23 2 #[.nestMembers #[36]] #[mI 1025 120 121, mI 1 138 63, mI 1 172 63] 1537 93 #[] #[])
  fields := #[]
  methods := #[k23m0, k23m1, k23m2]
  instanceTypes := #[]
  staticTypes := #[]
  resolved := Array.replicate 263 none
  statics := none }
def pool24 : Array CpInfo := pool [(1, .methodref 2 3), (0, .class_ 4), (0, .nameAndType 5 6), (0, u "java/lang/Object"), (0, u "<init>"), (0, u "()V"), (1, .class_ 10), (1, u "java/util/AbstractMap"), (42, .class_ 54), (0, u "java/util/Map"), (9, u "keySet"), (0, u "Ljava/util/Set;"), (0, .class_ 67), (0, u "java/util/AbstractMap$1"), (5, u "values"), (0, u "Ljava/util/Collection;"), (0, .class_ 76), (0, u "java/util/AbstractMap$2"), (104, .class_ 182), (0, u "java/util/AbstractMap$ViewCollection"), (0, .class_ 184), (0, u "java/util/AbstractMap$SimpleImmutableEntry"), (0, .class_ 186), (0, u "java/util/AbstractMap$SimpleEntry"), (0, .class_ 188), (0, u "java/util/AbstractMap$2$1"), (0, .class_ 190), (0, u "java/util/AbstractMap$1$1")] 5
def k24c0 : Code := cD 1 1 jdk_71_method_1_code
def k24m0 : Method := mT "<init>" "()V" [] none 4 (some k24c0)
def k24 : Class := { plain "java/util/AbstractMap" (some 0) with
  accessFlags := 1057
  interfaces := #[23]
  cf := some (fileOf pool24 8 #[.nestMembers #[181, 183, 185, 75, 187, 66, 189]] #[mI 4 5 6] 1057 2 #[53] #[fI 128 64 65, fI 128 73 74])
  fields := #[fD "keySet" (.object "java/util/Set") 128 0, fD "values" (.object "java/util/Collection") 128 1]
  methods := #[k24m0]
  instanceTypes := #[(.object "java/util/Set"), (.object "java/util/Collection")]
  staticTypes := #[]
  resolved := Array.replicate 196 none
  statics := none }
def pool25 : Array CpInfo := pool [(1, .methodref 2 3), (0, .class_ 4), (0, .nameAndType 5 6), (0, u "java/lang/Object"), (0, u "hashCode"), (0, u "()I"), (26, u "(Ljava/lang/Object;)I"), (6, .class_ 41), (0, u "java/util/HashMap"), (1, .methodref 44 45), (0, .class_ 46), (0, .nameAndType 47 48), (0, u "java/util/AbstractMap"), (0, u "<init>"), (0, u "()V"), (32, .fieldref 40 82), (0, .nameAndType 83 84), (0, u "loadFactor"), (0, u "F"), (3, .fieldref 40 89), (0, .nameAndType 90 91), (0, u "threshold"), (0, u "I"), (0, .float 1061158912), (8, .class_ 103), (1, u "java/util/Map"), (0, u "size"), (0, .fieldref 40 106), (0, .nameAndType 107 108), (0, u "table"), (0, u "[Ljava/util/HashMap$Node;"), (8, .methodref 40 118), (0, .nameAndType 119 120), (0, u "resize"), (0, u "()[Ljava/util/HashMap$Node;"), (2, u "entrySet"), (25, .methodref 40 150), (0, .nameAndType 151 33), (0, u "hash"), (0, .methodref 40 153), (0, .nameAndType 154 155), (0, u "putVal"), (0, u "(ILjava/lang/Object;Ljava/lang/Object;ZZ)Ljava/lang/Object;"), (0, .fieldref 40 157), (0, .nameAndType 104 91), (0, .methodref 40 159), (0, .nameAndType 160 161), (0, u "getNode"), (0, u "(Ljava/lang/Object;)Ljava/util/HashMap$Node;"), (0, .fieldref 163 164), (0, .class_ 165), (0, .nameAndType 166 167), (0, u "java/util/HashMap$Node"), (0, u "value"), (0, u "Ljava/lang/Object;"), (0, .fieldref 163 169), (0, .nameAndType 151 91), (0, .fieldref 163 171), (0, .nameAndType 172 167), (0, u "key"), (0, .methodref 2 174), (0, .nameAndType 175 176), (0, u "equals"), (0, u "(Ljava/lang/Object;)Z"), (3, .class_ 181), (0, u "java/util/HashMap$TreeNode"), (4, .methodref 40 187), (0, .nameAndType 188 189), (0, u "newNode"), (0, u "(ILjava/lang/Object;Ljava/lang/Object;Ljava/util/HashMap$Node;)Ljava/util/HashMap$Node;"), (12, .fieldref 40 203), (0, .nameAndType 204 91), (0, u "modCount"), (0, .methodref 40 206), (0, .nameAndType 207 208), (0, u "afterNodeInsertion"), (0, u "(Z)V"), (33, u "Ljava/util/Set;"), (0, .class_ 244), (0, u "java/util/HashMap$KeySet"), (18, .class_ 264), (0, u "java/util/HashMap$Values"), (3, .class_ 269), (0, u "java/util/HashMap$EntrySet"), (17, u "(Ljava/lang/Object;Ljava/lang/Object;)Ljava/lang/Object;"), (58, .class_ 348), (1, u "java/util/HashMap$UnsafeHolder"), (26, .methodref 163 376), (0, .nameAndType 47 377), (0, u "(ILjava/lang/Object;Ljava/lang/Object;Ljava/util/HashMap$Node;)V"), (14, .class_ 393), (0, u "java/lang/Cloneable"), (0, .class_ 395), (0, u "java/io/Serializable"), (0, u "serialVersionUID"), (0, u "J"), (3, u "DEFAULT_INITIAL_CAPACITY"), (1, u "MAXIMUM_CAPACITY"), (0, u "DEFAULT_LOAD_FACTOR"), (0, u "TREEIFY_THRESHOLD"), (1, u "UNTREEIFY_THRESHOLD"), (1, u "MIN_TREEIFY_CAPACITY"), (114, u "getOrDefault"), (2, u "putIfAbsent"), (68, .class_ 597), (0, u "java/util/HashMap$EntrySpliterator"), (0, .class_ 599), (0, u "java/util/HashMap$ValueSpliterator"), (0, .class_ 601), (0, u "java/util/HashMap$KeySpliterator"), (0, .class_ 603), (0, u "java/util/HashMap$HashMapSpliterator"), (0, .class_ 605), (0, u "java/util/HashMap$EntryIterator"), (0, .class_ 607), (0, u "java/util/HashMap$ValueIterator"), (0, .class_ 609), (0, u "java/util/HashMap$KeyIterator"), (0, .class_ 611), (0, u "java/util/HashMap$HashIterator")] 17
def k25c0 : Code := cD 3 2 jdk_69_method_1_code
def k25m0 : Method := mT "hash" "(Ljava/lang/Object;)I" [(.object "java/lang/Object")] (some .int) 24 (some k25c0)
def k25c1 : Code := cD 2 1 jdk_69_method_7_code
def k25m1 : Method := mT "<init>" "()V" [] none 1 (some k25c1)
def k25c2 : Code := cD 1 1 jdk_69_method_10_code
def k25m2 : Method := mT "size" "()I" [] (some .int) 1 (some k25c2)
def k25c3 : Code := cD 4 8 jdk_69_method_13_code
def k25m3 : Method := mT "getNode" "(Ljava/lang/Object;)Ljava/util/HashMap$Node;" [(.object "java/lang/Object")] (some (.object "java/util/HashMap$Node")) 16 (some k25c3)
def k25c4 : Code := cD 7 13 jdk_69_method_16_code
def k25m4 : Method := mT "putVal" "(ILjava/lang/Object;Ljava/lang/Object;ZZ)Ljava/lang/Object;" [.int, (.object "java/lang/Object"), (.object "java/lang/Object"), .boolean, .boolean] (some (.object "java/lang/Object")) 16 (some k25c4)
def k25c5 : Code := cD 5 14 jdk_69_method_17_code
def k25m5 : Method := mT "resize" "()[Ljava/util/HashMap$Node;" [] (some (.array (.object "java/util/HashMap$Node"))) 16 (some k25c5)
def k25c6 : Code := cD 2 4 jdk_69_method_30_code
def k25m6 : Method := mT "getOrDefault" "(Ljava/lang/Object;Ljava/lang/Object;)Ljava/lang/Object;" [(.object "java/lang/Object"), (.object "java/lang/Object")] (some (.object "java/lang/Object")) 1 (some k25c6)
def k25c7 : Code := cD 6 3 jdk_69_method_31_code
def k25m7 : Method := mT "putIfAbsent" "(Ljava/lang/Object;Ljava/lang/Object;)Ljava/lang/Object;" [(.object "java/lang/Object"), (.object "java/lang/Object")] (some (.object "java/lang/Object")) 1 (some k25c7)
def k25c8 : Code := cD 6 5 jdk_69_method_46_code
def k25m8 : Method := mT "newNode" "(ILjava/lang/Object;Ljava/lang/Object;Ljava/util/HashMap$Node;)Ljava/util/HashMap$Node;" [.int, (.object "java/lang/Object"), (.object "java/lang/Object"), (.object "java/util/HashMap$Node")] (some (.object "java/util/HashMap$Node")) 0 (some k25c8)
def k25c9 : Code := cD 0 2 jdk_69_method_52_code
def k25m9 : Method := mT "afterNodeInsertion" "(Z)V" [.boolean] none 0 (some k25c9)
def k25 : Class := { plain "java/util/HashMap" (some 24) with
  accessFlags := 33
  interfaces := #[23, 9, 10]
  cf := some (fileOf pool25 40 #[.nestMembers #[180, 596, 598, 600, 602, 604, 606, 608, 610, 346, 268, 263, 243, 163]] #[mI 24 151 33, mI 1 47 48, mI 1 104 6, mI 16 160 161, mI 16 154 155, mI 16 119 120, mI 1 524 287, mI 1 527 287, mI 0 188 189, mI 0 207 208] 33 44 #[101, 392, 394] #[fI 26 396 397, fI 24 401 91, fI 24 403 91, fI 24 404 84, fI 24 405 91, fI 24 407 91, fI 24 409 91, fI 128 107 108, fI 128 123 242, fI 128 104 91, fI 128 204 91, fI 0 90 91, fI 16 83 84])
  fields := #[fD "serialVersionUID" .long 26 0, fD "DEFAULT_INITIAL_CAPACITY" .int 24 1, fD "MAXIMUM_CAPACITY" .int 24 2, fD "DEFAULT_LOAD_FACTOR" .float 24 3, fD "TREEIFY_THRESHOLD" .int 24 4, fD "UNTREEIFY_THRESHOLD" .int 24 5, fD "MIN_TREEIFY_CAPACITY" .int 24 6, fD "table" (.array (.object "java/util/HashMap$Node")) 128 2, fD "entrySet" (.object "java/util/Set") 128 3, fD "size" .int 128 4, fD "modCount" .int 128 5, fD "threshold" .int 0 6, fD "loadFactor" .float 16 7]
  methods := #[k25m0, k25m1, k25m2, k25m3, k25m4, k25m5, k25m6, k25m7, k25m8, k25m9]
  instanceTypes := #[(.object "java/util/Set"), (.object "java/util/Collection"), (.array (.object "java/util/HashMap$Node")), (.object "java/util/Set"), .int, .int, .int, .float]
  staticTypes := #[.long, .int, .int, .float, .int, .int, .int]
  resolved := Array.replicate 629 none
  statics := none }
def pool26 : Array CpInfo := pool [(1, .class_ 2), (0, u "java/util/BitSet"), (0, .fieldref 1 4), (0, .nameAndType 5 6), (0, u "$assertionsDisabled"), (0, u "Z"), (0, .fieldref 1 8), (0, .nameAndType 9 10), (0, u "wordsInUse"), (0, u "I"), (0, .fieldref 1 12), (0, .nameAndType 13 14), (0, u "words"), (0, u "[J"), (3, .nameAndType 19 20), (0, u "<init>"), (0, u "()V"), (0, .methodref 22 18), (0, .class_ 23), (0, u "java/lang/Object"), (0, .fieldref 1 25), (0, .nameAndType 26 6), (0, u "sizeIsSticky"), (0, .methodref 1 28), (0, .nameAndType 29 30), (0, u "initWords"), (0, u "(I)V"), (21, .methodref 1 53), (0, .nameAndType 54 55), (0, u "wordIndex"), (0, u "(I)I"), (0, .methodref 1 57), (0, .nameAndType 58 20), (0, u "checkInvariants"), (80, .methodref 1 140), (0, .nameAndType 141 30), (0, u "ensureCapacity"), (13, .methodref 1 156), (0, .nameAndType 157 30), (0, u "expandTo"), (11, u "set"), (99, .class_ 270), (0, u "java/util/BitSet$1BitSetSpliterator"), (22, u "serialPersistentFields"), (0, u "[Ljava/io/ObjectStreamField;"), (0, .class_ 296), (0, u "java/lang/Cloneable"), (0, .class_ 298), (0, u "java/io/Serializable"), (0, u "ADDRESS_BITS_PER_WORD"), (2, u "BITS_PER_WORD"), (1, u "BIT_INDEX_MASK"), (1, u "WORD_MASK"), (0, u "J"), (0, u "serialVersionUID")] 108
def k26c0 : Code := cD 2 1 jdk_92_method_1_code
def k26m0 : Method := mT "wordIndex" "(I)I" [.int] (some .int) 10 (some k26c0)
def k26c1 : Code := cD 4 1 jdk_92_method_2_code
def k26m1 : Method := mT "checkInvariants" "()V" [] none 2 (some k26c1)
def k26c2 : Code := cD 2 1 jdk_92_method_4_code
def k26m2 : Method := mT "<init>" "()V" [] none 1 (some k26c2)
def k26c3 : Code := cD 3 2 jdk_92_method_6_code
def k26m3 : Method := mT "initWords" "(I)V" [.int] none 2 (some k26c3)
def k26c4 : Code := cD 3 3 jdk_92_method_14_code
def k26m4 : Method := mT "ensureCapacity" "(I)V" [.int] none 2 (some k26c4)
def k26c5 : Code := cD 2 3 jdk_92_method_15_code
def k26m5 : Method := mT "expandTo" "(I)V" [.int] none 2 (some k26c5)
def k26c6 : Code := cD 7 3 jdk_92_method_19_code
def k26m6 : Method := mT "set" "(I)V" [.int] none 1 (some k26c6)
def k26 : Class := { plain "java/util/BitSet" (some 0) with
  accessFlags := 33
  interfaces := #[9, 10]
  cf := some (fileOf pool26 1 #[.nestMembers #[269]] #[mI 10 54 55, mI 2 58 20, mI 1 19 20, mI 2 29 30, mI 2 141 30, mI 2 157 30, mI 1 169 30] 33 22 #[295, 297] #[fI 26 299 10, fI 26 302 10, fI 26 304 10, fI 26 306 307, fI 26 293 294, fI 2 13 14, fI 130 9 10, fI 130 26 6, fI 26 308 307, fI 4120 5 6])
  fields := #[fD "ADDRESS_BITS_PER_WORD" .int 26 0, fD "BITS_PER_WORD" .int 26 1, fD "BIT_INDEX_MASK" .int 26 2, fD "WORD_MASK" .long 26 3, fD "serialPersistentFields" (.array (.object "java/io/ObjectStreamField")) 26 4, fD "words" (.array .long) 2 0, fD "wordsInUse" .int 130 1, fD "sizeIsSticky" .boolean 130 2, fD "serialVersionUID" .long 26 5, fD "$assertionsDisabled" .boolean 4120 6]
  methods := #[k26m0, k26m1, k26m2, k26m3, k26m4, k26m5, k26m6]
  instanceTypes := #[(.array .long), .int, .boolean]
  staticTypes := #[.int, .int, .int, .long, (.array (.object "java/io/ObjectStreamField")), .long, .boolean]
  resolved := Array.replicate 417 none
  statics := some 2 }
def pool27 : Array CpInfo := pool [(2, .class_ 4), (1, u "java/lang/Object"), (0, u "<init>"), (0, u "()V"), (3, .class_ 11), (0, u "java/util/ImmutableCollections$List12"), (0, .class_ 13), (0, u "java/util/ImmutableCollections$ListN"), (3, u "Z"), (0, .class_ 19), (0, u "java/util/List"), (0, .interfaceMethodref 21 22), (0, .class_ 23), (0, .nameAndType 24 25), (0, u "java/util/Collection"), (0, u "isEmpty"), (0, u "()Z"), (2, u "of"), (1, .interfaceMethodref 21 31), (0, .nameAndType 32 33), (0, u "toArray"), (0, u "()[Ljava/lang/Object;"), (0, .interfaceMethodref 18 35), (0, .nameAndType 28 36), (0, u "([Ljava/lang/Object;)Ljava/util/List;"), (0, .methodref 38 39), (0, .class_ 40), (0, .nameAndType 41 42), (0, u "java/util/Objects"), (0, u "requireNonNull"), (0, u "(Ljava/lang/Object;)Ljava/lang/Object;"), (0, .methodref 12 44), (0, .nameAndType 5 45), (0, u "([Ljava/lang/Object;Z)V"), (1, .class_ 49), (1, u "java/util/ImmutableCollections"), (0, u "$assertionsDisabled"), (5, u "[Ljava/lang/Object;"), (5, u "EMPTY_LIST"), (0, u "Ljava/util/ImmutableCollections$ListN;"), (8, u "EMPTY_LIST_NULLS"), (22, u "SALT32L"), (0, u "J"), (2, u "REVERSE"), (6, u "archivedObjects"), (2, u "EMPTY"), (0, u "Ljava/lang/Object;"), (0, .class_ 112), (0, u "java/util/ImmutableCollections$SetN"), (5, u "EMPTY_SET"), (0, u "Ljava/util/ImmutableCollections$SetN;"), (0, .class_ 121), (0, u "java/util/ImmutableCollections$MapN"), (3, u "EMPTY_MAP"), (0, u "Ljava/util/ImmutableCollections$MapN;"), (4, u "EXPAND_FACTOR"), (0, u "I"), (9, u "listCopy"), (0, u "(Ljava/util/Collection;)Ljava/util/List;"), (7, u "listFromArray"), (17, .class_ 170), (0, u "java/util/ImmutableCollections$MapN$MapNIterator"), (0, .class_ 172), (0, u "java/util/ImmutableCollections$MapN$1"), (0, .class_ 174), (0, u "java/util/ImmutableCollections$Map1"), (0, .class_ 176), (0, u "java/util/ImmutableCollections$AbstractImmutableMap"), (0, .class_ 178), (0, u "java/util/ImmutableCollections$SetN$SetNIterator"), (0, .class_ 180), (0, u "java/util/ImmutableCollections$Set12"), (0, .class_ 182), (0, u "java/util/ImmutableCollections$Set12$1"), (0, .class_ 184), (0, u "java/util/ImmutableCollections$AbstractImmutableSet"), (0, .class_ 186), (0, u "java/util/ImmutableCollections$SubList"), (0, .class_ 188), (0, u "java/util/ImmutableCollections$ListItr"), (0, .class_ 190), (0, u "java/util/ImmutableCollections$AbstractImmutableList"), (0, .class_ 192), (0, u "java/util/ImmutableCollections$AbstractImmutableCollection"), (0, .class_ 194), (0, u "java/util/ImmutableCollections$Access"), (0, .class_ 196), (0, u "java/util/ImmutableCollections$Access$1")] 16
def k27m0 : Method := mT "<init>" "()V" [] none 2 none
def k27c1 : Code := cD 1 2 jdk_56_method_3_code
def k27m1 : Method := mT "listCopy" "(Ljava/util/Collection;)Ljava/util/List;" [(.object "java/util/Collection")] (some (.object "java/util/List")) 8 (some k27c1)
def k27c2 : Code := cD 4 3 jdk_56_method_4_code
def k27m2 : Method := mT "listFromArray" "([Ljava/lang/Object;)Ljava/util/List;" [(.array (.object "java/lang/Object"))] (some (.object "java/util/List")) 136 (some k27c2)
def k27 : Class := { plain "java/util/ImmutableCollections" (some 0) with
  accessFlags := 32
  interfaces := #[]
  cf := some (fileOf pool27 47 #[.nestMembers #[120, 169, 171, 173, 175, 111, 177, 179, 181, 183, 12, 10, 185, 187, 189, 191, 193, 195]] #[mI 2 5 6, mI 8 142 143, mI 136 151 36] 32 2 #[] #[fI 26 95 96, fI 26 99 17, fI 10 106 56, fI 26 109 110, fI 24 62 63, fI 24 72 63, fI 24 118 119, fI 24 125 126, fI 24 131 132, fI 4120 50 17])
  fields := #[fD "SALT32L" .long 26 0, fD "REVERSE" .boolean 26 1, fD "archivedObjects" (.array (.object "java/lang/Object")) 10 2, fD "EMPTY" (.object "java/lang/Object") 26 3, fD "EMPTY_LIST" (.object "java/util/ImmutableCollections$ListN") 24 4, fD "EMPTY_LIST_NULLS" (.object "java/util/ImmutableCollections$ListN") 24 5, fD "EMPTY_SET" (.object "java/util/ImmutableCollections$SetN") 24 6, fD "EMPTY_MAP" (.object "java/util/ImmutableCollections$MapN") 24 7, fD "EXPAND_FACTOR" .int 24 8, fD "$assertionsDisabled" .boolean 4120 9]
  methods := #[k27m0, k27m1, k27m2]
  instanceTypes := #[]
  staticTypes := #[.long, .boolean, (.array (.object "java/lang/Object")), (.object "java/lang/Object"), (.object "java/util/ImmutableCollections$ListN"), (.object "java/util/ImmutableCollections$ListN"), (.object "java/util/ImmutableCollections$SetN"), (.object "java/util/ImmutableCollections$MapN"), .int, .boolean]
  resolved := Array.replicate 213 none
  statics := some 3 }
def pool28 : Array CpInfo := pool [(1, .methodref 2 3), (0, .class_ 4), (0, .nameAndType 5 6), (0, u "java/util/AbstractCollection"), (0, u "<init>"), (0, u "()V"), (1, .class_ 10), (1, u "java/util/ImmutableCollections"), (2, .class_ 14), (0, u "java/util/ImmutableCollections$AbstractImmutableCollection")] 41
def k28c0 : Code := cD 1 1 jdk_47_method_1_code
def k28m0 : Method := mT "<init>" "()V" [] none 0 (some k28c0)
def k28 : Class := { plain "java/util/ImmutableCollections$AbstractImmutableCollection" (some 4) with
  accessFlags := 1056
  interfaces := #[]
  cf := some (fileOf pool28 13 #[.nestHost 8] #[mI 0 5 6] 1056 2 #[] #[])
  fields := #[]
  methods := #[k28m0]
  instanceTypes := #[]
  staticTypes := #[]
  resolved := Array.replicate 56 none
  statics := none }
def pool29 : Array CpInfo := pool [(1, .methodref 2 3), (0, .class_ 4), (0, .nameAndType 5 6), (0, u "java/util/ImmutableCollections$AbstractImmutableCollection"), (0, u "<init>"), (0, u "()V"), (1, .class_ 10), (1, u "java/util/ImmutableCollections"), (2, .methodref 14 15), (0, .class_ 16), (0, .nameAndType 17 18), (0, u "java/util/ImmutableCollections$AbstractImmutableList"), (0, u "size"), (0, u "()I"), (42, .class_ 62), (0, u "java/util/ImmutableCollections$ListItr"), (0, .methodref 61 64), (0, .nameAndType 5 65), (0, u "(Ljava/util/List;I)V"), (11, .class_ 78), (0, u "java/util/List"), (2, u "iterator"), (0, u "()Ljava/util/Iterator;"), (41, .class_ 125), (0, u "java/util/RandomAccess")] 70
def k29c0 : Code := cD 1 1 jdk_46_method_1_code
def k29m0 : Method := mT "<init>" "()V" [] none 0 (some k29c0)
def k29c1 : Code := cD 4 1 jdk_46_method_10_code
def k29m1 : Method := mT "iterator" "()Ljava/util/Iterator;" [] (some (.object "java/util/Iterator")) 1 (some k29c1)
def k29 : Class := { plain "java/util/ImmutableCollections$AbstractImmutableList" (some 28) with
  accessFlags := 1056
  interfaces := #[6, 8]
  cf := some (fileOf pool29 14 #[.nestHost 8] #[mI 0 5 6, mI 1 81 82] 1056 2 #[77, 124] #[])
  fields := #[]
  methods := #[k29m0, k29m1]
  instanceTypes := #[]
  staticTypes := #[]
  resolved := Array.replicate 196 none
  statics := none }
def pool30 : Array CpInfo := pool [(1, .methodref 2 3), (0, .class_ 4), (0, .nameAndType 5 6), (0, u "java/util/ImmutableCollections$AbstractImmutableList"), (0, u "<init>"), (0, u "()V"), (0, .methodref 8 9), (0, .class_ 10), (0, .nameAndType 11 12), (0, u "java/util/Objects"), (0, u "requireNonNull"), (0, u "(Ljava/lang/Object;)Ljava/lang/Object;"), (0, .fieldref 14 15), (0, .class_ 16), (0, .nameAndType 17 18), (0, u "java/util/ImmutableCollections$List12"), (0, u "e0"), (0, u "Ljava/lang/Object;"), (0, .fieldref 20 21), (0, .class_ 22), (0, .nameAndType 23 18), (0, u "java/util/ImmutableCollections"), (0, u "EMPTY"), (0, .fieldref 14 25), (0, .nameAndType 26 18), (0, u "e1"), (24, u "size"), (0, u "()I"), (17, .class_ 71), (0, u "java/io/Serializable"), (4, u "(Ljava/lang/Object;)V"), (8, u "(Ljava/lang/Object;Ljava/lang/Object;)V"), (4, u "get"), (0, u "(I)Ljava/lang/Object;")] 33
def k30c0 : Code := cD 2 2 jdk_44_method_1_code
def k30m0 : Method := mT "<init>" "(Ljava/lang/Object;)V" [(.object "java/lang/Object")] none 0 (some k30c0)
def k30c1 : Code := cD 2 3 jdk_44_method_2_code
def k30m1 : Method := mT "<init>" "(Ljava/lang/Object;Ljava/lang/Object;)V" [(.object "java/lang/Object"), (.object "java/lang/Object")] none 0 (some k30c1)
def k30c2 : Code := cD 2 1 jdk_44_method_3_code
def k30m2 : Method := mT "size" "()I" [] (some .int) 1 (some k30c2)
def k30c3 : Code := cD 2 2 jdk_44_method_5_code
def k30m3 : Method := mT "get" "(I)Ljava/lang/Object;" [.int] (some (.object "java/lang/Object")) 1 (some k30c3)
def k30 : Class := { plain "java/util/ImmutableCollections$List12" (some 29) with
  accessFlags := 48
  interfaces := #[10]
  cf := some (fileOf pool30 14 #[.nestHost 20] #[mI 0 5 76, mI 0 5 85, mI 1 51 52, mI 1 90 91] 48 2 #[70] #[fI 18 17 18, fI 18 26 18])
  fields := #[fD "e0" (.object "java/lang/Object") 18 0, fD "e1" (.object "java/lang/Object") 18 1]
  methods := #[k30m0, k30m1, k30m2, k30m3]
  instanceTypes := #[(.object "java/lang/Object"), (.object "java/lang/Object")]
  staticTypes := #[]
  resolved := Array.replicate 125 none
  statics := none }
def pool31 : Array CpInfo := pool [(1, .methodref 2 3), (0, .class_ 4), (0, .nameAndType 5 6), (0, u "java/util/ImmutableCollections$AbstractImmutableList"), (0, u "<init>"), (0, u "()V"), (0, .fieldref 8 9), (0, .class_ 10), (0, .nameAndType 11 12), (0, u "java/util/ImmutableCollections$ListN"), (0, u "elements"), (0, u "[Ljava/lang/Object;"), (0, .fieldref 8 14), (0, .nameAndType 15 16), (0, u "allowNulls"), (0, u "Z"), (42, .class_ 60), (0, u "java/io/Serializable"), (4, u "([Ljava/lang/Object;Z)V"), (11, u "size"), (0, u "()I"), (0, u "get"), (0, u "(I)Ljava/lang/Object;"), (33, .class_ 115), (0, u "java/util/ImmutableCollections")] 3
def k31c0 : Code := cD 2 3 jdk_45_method_1_code
def k31m0 : Method := mT "<init>" "([Ljava/lang/Object;Z)V" [(.array (.object "java/lang/Object")), .boolean] none 2 (some k31c0)
def k31c1 : Code := cD 1 1 jdk_45_method_3_code
def k31m1 : Method := mT "size" "()I" [] (some .int) 1 (some k31c1)
def k31c2 : Code := cD 2 2 jdk_45_method_4_code
def k31m2 : Method := mT "get" "(I)Ljava/lang/Object;" [.int] (some (.object "java/lang/Object")) 1 (some k31c2)
def k31 : Class := { plain "java/util/ImmutableCollections$ListN" (some 29) with
  accessFlags := 48
  interfaces := #[10]
  cf := some (fileOf pool31 8 #[.nestHost 114] #[mI 2 5 65, mI 1 77 78, mI 1 79 80] 48 2 #[59] #[fI 18 11 12, fI 18 15 16])
  fields := #[fD "elements" (.array (.object "java/lang/Object")) 18 0, fD "allowNulls" .boolean 18 1]
  methods := #[k31m0, k31m1, k31m2]
  instanceTypes := #[(.array (.object "java/lang/Object")), .boolean]
  staticTypes := #[]
  resolved := Array.replicate 119 none
  statics := none }
def pool32 : Array CpInfo := pool [(2, .class_ 4), (1, u "java/lang/Object"), (0, u "<init>"), (0, u "()V"), (7, .class_ 16), (1, u "java/util/Arrays"), (57, .class_ 76), (1, u "java/util/Arrays$NaturalOrder"), (9, .methodref 2 87), (0, .nameAndType 88 89), (0, u "getClass"), (0, u "()Ljava/lang/Class;"), (20, .class_ 111), (0, u "[Ljava/lang/Object;"), (1, .class_ 115), (1, u "java/util/Arrays$LegacyMergeSort"), (1, u "Z"), (32, .methodref 151 152), (0, .class_ 153), (0, .nameAndType 154 155), (0, u "java/lang/System"), (0, u "arraycopy"), (0, u "(Ljava/lang/Object;ILjava/lang/Object;II)V"), (144, .methodref 14 301), (0, .nameAndType 302 303), (0, u "copyOf"), (0, u "([Ljava/lang/Object;ILjava/lang/Class;)[Ljava/lang/Object;"), (0, .methodref 305 306), (0, .class_ 307), (0, .nameAndType 308 309), (0, u "java/lang/Math"), (0, u "min"), (0, u "(II)I"), (65, .class_ 376), (0, u "java/util/Arrays$ArrayList"), (68, u "$assertionsDisabled"), (269, u "MIN_ARRAY_SORT_GRAN"), (0, u "I"), (2, u "INSERTIONSORT_THRESHOLD"), (140, u "([Ljava/lang/Object;I)[Ljava/lang/Object;"), (10, u "([II)[I"), (103, .class_ 976), (0, u "java/util/Arrays$ArrayItr")] 52
def k32m0 : Method := mT "<init>" "()V" [] none 2 none
def k32c1 : Code := cD 3 2 jdk_65_method_119_code
def k32m1 : Method := mT "copyOf" "([Ljava/lang/Object;I)[Ljava/lang/Object;" [(.array (.object "java/lang/Object")), .int] (some (.array (.object "java/lang/Object"))) 9 (some k32c1)
def k32c2 : Code := cD 6 4 jdk_65_method_120_code
def k32m2 : Method := mT "copyOf" "([Ljava/lang/Object;ILjava/lang/Class;)[Ljava/lang/Object;" [(.array (.object "java/lang/Object")), .int, (.object "java/lang/Class")] (some (.array (.object "java/lang/Object"))) 9 (some k32c2)
def k32c3 : Code := cD 6 3 jdk_65_method_123_code
def k32m3 : Method := mT "copyOf" "([II)[I" [(.array .int), .int] (some (.array .int)) 9 (some k32c3)
def k32 : Class := { plain "java/util/Arrays" (some 0) with
  accessFlags := 49
  interfaces := #[]
  cf := some (fileOf pool32 14 #[.nestMembers #[975, 375, 113, 74]] #[mI 2 5 6, mI 9 302 860, mI 9 302 303, mI 9 302 871] 49 2 #[] #[fI 26 715 716, fI 26 719 716, fI 4120 445 117])
  fields := #[fD "MIN_ARRAY_SORT_GRAN" .int 26 0, fD "INSERTIONSORT_THRESHOLD" .int 26 1, fD "$assertionsDisabled" .boolean 4120 2]
  methods := #[k32m0, k32m1, k32m2, k32m3]
  instanceTypes := #[]
  staticTypes := #[.int, .int, .boolean]
  resolved := Array.replicate 1029 none
  statics := none }
def pool33 : Array CpInfo := pool [(2, .class_ 4), (1, u "java/lang/Object"), (0, u "<init>"), (0, u "()V"), (1, .class_ 10), (1, u "java/lang/System"), (0, u "allowSecurityManager"), (0, u "I"), (16, u "cons"), (0, u "Ljava/io/Console;"), (77, .class_ 110), (1, u "java/lang/System$CallersHolder"), (43, u "initialErrStream"), (0, u "Ljava/io/PrintStream;"), (19, u "security"), (0, u "Ljava/lang/SecurityManager;"), (31, .class_ 209), (0, u "java/lang/System$1"), (7, u "props"), (0, u "Ljava/util/Properties;"), (2, u "lineSeparator"), (0, u "Ljava/lang/String;"), (96, .class_ 321), (1, u "java/lang/System$LoggerFinder"), (5, .class_ 328), (0, u "java/lang/System$Logger"), (67, u "err"), (2, u "out"), (91, u "notSupportedJnuEncoding"), (15, u "in"), (17, u "initialIn"), (0, u "Ljava/io/InputStream;"), (35, u "bootLayer"), (0, u "Ljava/lang/ModuleLayer;"), (99, .class_ 664), (0, u "java/lang/System$2"), (9, u "NEVER"), (2, u "MAYBE"), (49, u "arraycopy"), (0, u "(Ljava/lang/Object;ILjava/lang/Object;II)V"), (72, .class_ 802), (0, u "java/lang/System$Logger$Level")] 31
def k33m0 : Method := mT "<init>" "()V" [] none 2 none
def k33m1 : Method := mT "arraycopy" "(Ljava/lang/Object;ILjava/lang/Object;II)V" [(.object "java/lang/Object"), .int, (.object "java/lang/Object"), .int, .int] none 265 none
def k33 : Class := { plain "java/lang/System" (some 0) with
  accessFlags := 49
  interfaces := #[]
  cf := some (fileOf pool33 8 #[.nestMembers #[319, 327, 801, 108, 663, 208]] #[mI 2 5 6, mI 265 727 728] 49 2 #[] #[fI 25 507 526, fI 25 399 155, fI 25 396 155, fI 10 525 526, fI 26 674 12, fI 26 677 12, fI 10 11 12, fI 74 175 176, fI 10 491 222, fI 74 29 30, fI 74 154 155, fI 10 217 218, fI 10 221 222, fI 8 562 563])
  fields := #[fD "in" (.object "java/io/InputStream") 25 0, fD "out" (.object "java/io/PrintStream") 25 1, fD "err" (.object "java/io/PrintStream") 25 2, fD "initialIn" (.object "java/io/InputStream") 10 3, fD "NEVER" .int 26 4, fD "MAYBE" .int 26 5, fD "allowSecurityManager" .int 10 6, fD "security" (.object "java/lang/SecurityManager") 74 7, fD "notSupportedJnuEncoding" (.object "java/lang/String") 10 8, fD "cons" (.object "java/io/Console") 74 9, fD "initialErrStream" (.object "java/io/PrintStream") 74 10, fD "props" (.object "java/util/Properties") 10 11, fD "lineSeparator" (.object "java/lang/String") 10 12, fD "bootLayer" (.object "java/lang/ModuleLayer") 8 13]
  methods := #[k33m0, k33m1]
  instanceTypes := #[]
  staticTypes := #[(.object "java/io/InputStream"), (.object "java/io/PrintStream"), (.object "java/io/PrintStream"), (.object "java/io/InputStream"), .int, .int, .int, (.object "java/lang/SecurityManager"), (.object "java/lang/String"), (.object "java/io/Console"), (.object "java/io/PrintStream"), (.object "java/util/Properties"), (.object "java/lang/String"), (.object "java/lang/ModuleLayer")]
  resolved := Array.replicate 834 none
  statics := none }
def pool34 : Array CpInfo := pool [(16, .class_ 18), (1, u "java/util/Iterator"), (0, u "hasNext"), (0, u "()Z"), (2, u "next"), (0, u "()Ljava/lang/Object;"), (6, .class_ 32), (0, u "java/lang/Object")] 20
def k34m0 : Method := mT "hasNext" "()Z" [] (some .boolean) 1025 none
def k34m1 : Method := mT "next" "()Ljava/lang/Object;" [] (some (.object "java/lang/Object")) 1025 none
def k34 : Class := { plain "java/util/Iterator" (some 0) with
  accessFlags := 1537
  interfaces := #[]
  cf := some (fileOf pool34 16 #[] #[mI 1025 19 20, mI 1025 23 24] 1537 31 #[] #[])
  fields := #[]
  methods := #[k34m0, k34m1]
  instanceTypes := #[]
  staticTypes := #[]
  resolved := Array.replicate 53 none
  statics := none }
def pool35 : Array CpInfo := pool [(1, .class_ 2), (0, u "java/util/ListIterator"), (0, .class_ 4), (0, u "java/lang/Object"), (0, .class_ 6), (0, u "java/util/Iterator")] 20
def k35 : Class := { plain "java/util/ListIterator" (some 0) with
  accessFlags := 1537
  interfaces := #[34]
  cf := some (fileOf pool35 1 #[] #[] 1537 3 #[5] #[])
  fields := #[]
  methods := #[]
  instanceTypes := #[]
  staticTypes := #[]
  resolved := Array.replicate 27 none
  statics := none }
def pool36 : Array CpInfo := pool [(1, .methodref 2 3), (0, .class_ 4), (0, .nameAndType 5 6), (0, u "java/lang/Object"), (0, u "<init>"), (0, u "()V"), (0, .fieldref 8 9), (0, .class_ 10), (0, .nameAndType 11 12), (0, u "java/util/ImmutableCollections$ListItr"), (0, u "list"), (0, u "Ljava/util/List;"), (0, .fieldref 8 14), (0, .nameAndType 15 16), (0, u "size"), (0, u "I"), (0, .fieldref 8 18), (0, .nameAndType 19 16), (0, u "cursor"), (0, .fieldref 8 21), (0, .nameAndType 22 23), (0, u "isListIterator"), (0, u "Z"), (0, .interfaceMethodref 25 26), (0, .class_ 27), (0, .nameAndType 28 29), (0, u "java/util/List"), (0, u "get"), (0, u "(I)Ljava/lang/Object;"), (6, .class_ 38), (1, u "java/util/ImmutableCollections"), (2, .class_ 42), (0, u "java/util/ListIterator"), (4, u "(Ljava/util/List;I)V"), (11, u "hasNext"), (0, u "()Z"), (1, u "next"), (0, u "()Ljava/lang/Object;")] 22
def k36c0 : Code := cD 2 3 jdk_53_method_1_code
def k36m0 : Method := mT "<init>" "(Ljava/util/List;I)V" [(.object "java/util/List"), .int] none 0 (some k36c0)
def k36c1 : Code := cD 2 1 jdk_53_method_3_code
def k36m1 : Method := mT "hasNext" "()Z" [] (some .boolean) 1 (some k36c1)
def k36c2 : Code := { maxStack := 3, maxLocals := 3, code := jdk_53_method_4_code, exceptionTable := #[{ startPc := 0, endPc := 24, handlerPc := 25, catchType := 30 }], attributes := #[] }
def k36m2 : Method := mT "next" "()Ljava/lang/Object;" [] (some (.object "java/lang/Object")) 1 (some k36c2)
def k36 : Class := { plain "java/util/ImmutableCollections$ListItr" (some 0) with
  accessFlags := 48
  interfaces := #[35]
  cf := some (fileOf pool36 8 #[.nestHost 36] #[mI 0 5 47, mI 1 59 60, mI 1 62 63] 48 2 #[41] #[fI 18 11 12, fI 18 15 16, fI 18 22 23, fI 2 19 16])
  fields := #[fD "list" (.object "java/util/List") 18 0, fD "size" .int 18 1, fD "isListIterator" .boolean 18 2, fD "cursor" .int 2 3]
  methods := #[k36m0, k36m1, k36m2]
  instanceTypes := #[(.object "java/util/List"), .int, .boolean, .int]
  staticTypes := #[]
  resolved := Array.replicate 86 none
  statics := none }
def pool37 : Array CpInfo := pool [(2, .class_ 4), (1, u "java/lang/Object"), (0, u "<init>"), (0, u "()V"), (1, .class_ 10), (1, u "java/lang/Number"), (2, .class_ 14), (0, u "java/io/Serializable"), (0, u "serialVersionUID"), (0, u "J")] 20
def k37m0 : Method := mT "<init>" "()V" [] none 1 none
def k37 : Class := { plain "java/lang/Number" (some 0) with
  accessFlags := 1057
  interfaces := #[10]
  cf := some (fileOf pool37 8 #[] #[mI 1 5 6] 1057 2 #[13] #[fI 26 15 16])
  fields := #[fD "serialVersionUID" .long 26 0]
  methods := #[k37m0]
  instanceTypes := #[]
  staticTypes := #[.long]
  resolved := Array.replicate 37 none
  statics := none }
def pool38 : Array CpInfo := pool [(1, .class_ 2), (0, u "java/lang/Integer"), (16, u "digits"), (0, u "[C"), (64, u "DigitOnes"), (0, u "[B"), (2, u "DigitTens"), (31, u "()I"), (65, u "valueOf"), (0, u "(I)Ljava/lang/Integer;"), (0, .class_ 190), (0, u "java/lang/Integer$IntegerCache"), (0, .fieldref 189 192), (0, .nameAndType 193 194), (0, u "high"), (0, u "I"), (0, .fieldref 189 196), (0, .nameAndType 197 198), (0, u "cache"), (0, u "[Ljava/lang/Integer;"), (4, .class_ 204), (0, u "java/lang/Number"), (0, .fieldref 1 206), (0, .nameAndType 207 194), (0, u "value"), (5, u "intValue"), (88, u "TYPE"), (0, u "Ljava/lang/Class;"), (0, .class_ 305), (0, u "java/lang/Comparable"), (0, .class_ 307), (0, u "java/lang/constant/Constable"), (0, .class_ 309), (0, u "java/lang/constant/ConstantDesc"), (0, u "MIN_VALUE"), (1, u "MAX_VALUE"), (3, u "SIZE"), (1, u "BYTES"), (1, u "serialVersionUID"), (0, u "J")] 131
def k38c0 : Code := cD 3 1 jdk_33_method_22_code
def k38m0 : Method := mT "valueOf" "(I)Ljava/lang/Integer;" [.int] (some (.object "java/lang/Integer")) 9 (some k38c0)
def k38c1 : Code := cD 1 1 jdk_33_method_27_code
def k38m1 : Method := mT "intValue" "()I" [] (some .int) 1 (some k38c1)
def k38 : Class := { plain "java/lang/Integer" (some 37) with
  accessFlags := 49
  interfaces := #[12, 14, 15]
  cf := some (fileOf pool38 1 #[.nestMembers #[189]] #[mI 9 187 188, mI 1 213 121] 49 203 #[304, 306, 308] #[fI 25 310 194, fI 25 312 194, fI 25 302 303, fI 24 19 20, fI 24 89 86, fI 24 85 86, fI 18 207 194, fI 25 316 194, fI 25 318 194, fI 26 320 321])
  fields := #[fD "MIN_VALUE" .int 25 0, fD "MAX_VALUE" .int 25 1, fD "TYPE" (.object "java/lang/Class") 25 2, fD "digits" (.array .char) 24 3, fD "DigitTens" (.array .byte) 24 4, fD "DigitOnes" (.array .byte) 24 5, fD "value" .int 18 0, fD "SIZE" .int 25 6, fD "BYTES" .int 25 7, fD "serialVersionUID" .long 26 8]
  methods := #[k38m0, k38m1]
  instanceTypes := #[.int]
  staticTypes := #[.int, .int, (.object "java/lang/Class"), (.array .char), (.array .byte), (.array .byte), .int, .int, .long]
  resolved := Array.replicate 453 none
  statics := none }
def pool39 : Array CpInfo := pool [(2, .class_ 4), (1, u "java/lang/Object"), (0, u "<init>"), (0, u "()V"), (0, .class_ 8), (0, u "java/lang/Integer"), (7, .class_ 18), (1, u "java/lang/Integer$IntegerCache"), (0, u "$assertionsDisabled"), (0, u "Z"), (26, u "high"), (0, u "I"), (8, u "archivedCache"), (0, u "[Ljava/lang/Integer;"), (12, u "cache"), (0, u "low")] 27
def k39m0 : Method := mT "<init>" "()V" [] none 2 none
def k39 : Class := { plain "java/lang/Integer$IntegerCache" (some 0) with
  accessFlags := 48
  interfaces := #[]
  cf := some (fileOf pool39 16 #[.nestHost 7] #[mI 2 5 6] 48 2 #[] #[fI 24 72 48, fI 24 47 48, fI 24 71 58, fI 8 57 58, fI 4120 19 20])
  fields := #[fD "low" .int 24 0, fD "high" .int 24 1, fD "cache" (.array (.object "java/lang/Integer")) 24 2, fD "archivedCache" (.array (.object "java/lang/Integer")) 8 3, fD "$assertionsDisabled" .boolean 4120 4]
  methods := #[k39m0]
  instanceTypes := #[]
  staticTypes := #[.int, .int, (.array (.object "java/lang/Integer")), (.array (.object "java/lang/Integer")), .boolean]
  resolved := Array.replicate 100 none
  statics := some 4 }
def pool40 : Array CpInfo := pool [(23, .class_ 25), (1, u "java/util/Map$Entry"), (6, .class_ 34), (1, u "java/util/Map"), (34, .class_ 70), (0, u "java/lang/Object")] 107
def k40 : Class := { plain "java/util/Map$Entry" (some 0) with
  accessFlags := 1537
  interfaces := #[]
  cf := some (fileOf pool40 23 #[.nestHost 32] #[] 1537 69 #[] #[])
  fields := #[]
  methods := #[]
  instanceTypes := #[]
  staticTypes := #[]
  resolved := Array.replicate 178 none
  statics := none }
def pool41 : Array CpInfo := pool [(1, .methodref 2 3), (0, .class_ 4), (0, .nameAndType 5 6), (0, u "java/lang/Object"), (0, u "<init>"), (0, u "()V"), (0, .fieldref 8 9), (0, .class_ 10), (0, .nameAndType 11 12), (0, u "java/util/HashMap$Node"), (0, u "hash"), (0, u "I"), (0, .fieldref 8 14), (0, .nameAndType 15 16), (0, u "key"), (0, u "Ljava/lang/Object;"), (0, .fieldref 8 18), (0, .nameAndType 19 16), (0, u "value"), (0, .fieldref 8 21), (0, .nameAndType 22 23), (0, u "next"), (0, u "Ljava/util/HashMap$Node;"), (22, .class_ 47), (0, u "java/util/Map$Entry"), (15, u "(ILjava/lang/Object;Ljava/lang/Object;Ljava/util/HashMap$Node;)V"), (24, .class_ 89), (0, u "java/util/HashMap")] 5
def k41c0 : Code := cD 2 5 jdk_70_method_1_code
def k41m0 : Method := mT "<init>" "(ILjava/lang/Object;Ljava/lang/Object;Ljava/util/HashMap$Node;)V" [.int, (.object "java/lang/Object"), (.object "java/lang/Object"), (.object "java/util/HashMap$Node")] none 0 (some k41c0)
def k41 : Class := { plain "java/util/HashMap$Node" (some 0) with
  accessFlags := 32
  interfaces := #[40]
  cf := some (fileOf pool41 8 #[.nestHost 88] #[mI 0 5 63] 32 2 #[46] #[fI 16 11 12, fI 16 15 16, fI 0 19 16, fI 0 22 23])
  fields := #[fD "hash" .int 16 0, fD "key" (.object "java/lang/Object") 16 1, fD "value" (.object "java/lang/Object") 0 2, fD "next" (.object "java/util/HashMap$Node") 0 3]
  methods := #[k41m0]
  instanceTypes := #[.int, (.object "java/lang/Object"), (.object "java/lang/Object"), (.object "java/util/HashMap$Node")]
  staticTypes := #[]
  resolved := Array.replicate 95 none
  statics := none }
def pool42 : Array CpInfo := pool [(2, .class_ 4), (1, u "java/lang/Object"), (0, u "<init>"), (0, u "()V"), (17, .class_ 26), (1, u "jdk/internal/util/Preconditions"), (6, u "checkIndex"), (21, .class_ 56), (0, u "jdk/internal/util/Preconditions$4"), (57, .class_ 115), (0, u "jdk/internal/util/Preconditions$1"), (7, u "SIOOBE_FORMATTER"), (0, u "Ljava/util/function/BiFunction;"), (0, .class_ 126), (0, u "jdk/internal/util/Preconditions$2"), (3, u "AIOOBE_FORMATTER"), (0, .class_ 132), (0, u "jdk/internal/util/Preconditions$3"), (3, u "IOOBE_FORMATTER"), (41, u "(IILjava/util/function/BiFunction;)I")] 15
def k42m0 : Method := mT "<init>" "()V" [] none 1 none
def k42c1 : Code := cD 3 3 jdk_41_method_11_code
def k42m1 : Method := mT "checkIndex" "(IILjava/util/function/BiFunction;)I" [.int, .int, (.object "java/util/function/BiFunction")] (some .int) 9 (some k42c1)
def k42 : Class := { plain "jdk/internal/util/Preconditions" (some 0) with
  accessFlags := 33
  interfaces := #[]
  cf := some (fileOf pool42 24 #[.nestMembers #[55, 131, 125, 114]] #[mI 1 5 6, mI 9 33 178] 33 2 #[] #[fI 25 123 124, fI 25 130 124, fI 25 136 124])
  fields := #[fD "SIOOBE_FORMATTER" (.object "java/util/function/BiFunction") 25 0, fD "AIOOBE_FORMATTER" (.object "java/util/function/BiFunction") 25 1, fD "IOOBE_FORMATTER" (.object "java/util/function/BiFunction") 25 2]
  methods := #[k42m0, k42m1]
  instanceTypes := #[]
  staticTypes := #[(.object "java/util/function/BiFunction"), (.object "java/util/function/BiFunction"), (.object "java/util/function/BiFunction")]
  resolved := Array.replicate 194 none
  statics := some 5 }
def pool43 : Array CpInfo := pool [(1, .fieldref 2 3), (0, .class_ 4), (0, .nameAndType 5 6), (0, u "java/util/ArrayList$Itr"), (0, u "this$0"), (0, u "Ljava/util/ArrayList;"), (0, .methodref 8 9), (0, .class_ 10), (0, .nameAndType 11 12), (0, u "java/lang/Object"), (0, u "<init>"), (0, u "()V"), (0, .fieldref 2 14), (0, .nameAndType 15 16), (0, u "lastRet"), (0, u "I"), (0, .fieldref 18 19), (0, .class_ 20), (0, .nameAndType 21 16), (0, u "java/util/ArrayList"), (0, u "modCount"), (0, .fieldref 2 23), (0, .nameAndType 24 16), (0, u "expectedModCount"), (0, .fieldref 2 26), (0, .nameAndType 27 16), (0, u "cursor"), (0, .fieldref 18 29), (0, .nameAndType 30 16), (0, u "size"), (38, .class_ 70), (0, u "java/util/Iterator"), (0, u "(Ljava/util/ArrayList;)V"), (8, u "hasNext"), (0, u "()Z")] 22
def k43c0 : Code := cD 2 2 jdk_49_method_1_code
def k43m0 : Method := mT "<init>" "(Ljava/util/ArrayList;)V" [(.object "java/util/ArrayList")] none 0 (some k43c0)
def k43c1 : Code := cD 2 1 jdk_49_method_2_code
def k43m1 : Method := mT "hasNext" "()Z" [] (some .boolean) 1 (some k43c1)
def k43 : Class := { plain "java/util/ArrayList$Itr" (some 0) with
  accessFlags := 32
  interfaces := #[34]
  cf := some (fileOf pool43 2 #[.nestHost 18] #[mI 0 11 71, mI 1 80 81] 32 8 #[69] #[fI 0 27 16, fI 0 15 16, fI 0 24 16, fI 4112 5 6])
  fields := #[fD "cursor" .int 0 0, fD "lastRet" .int 0 1, fD "expectedModCount" .int 0 2, fD "this$0" (.object "java/util/ArrayList") 4112 3]
  methods := #[k43m0, k43m1]
  instanceTypes := #[.int, .int, .int, (.object "java/util/ArrayList")]
  staticTypes := #[]
  resolved := Array.replicate 104 none
  statics := none }
def pool44 : Array CpInfo := pool [(2, .class_ 4), (1, u "java/lang/Object"), (0, u "<init>"), (0, u "()V"), (1, .class_ 10), (1, u "java/util/List"), (2, .class_ 14), (0, u "java/util/RandomAccess"), (4, .class_ 20), (0, u "java/util/Collections"), (63, u "r"), (0, u "Ljava/util/Random;"), (67, u "(Ljava/util/List;)V"), (9, .nameAndType 164 165), (0, u "getClass"), (0, u "()Ljava/lang/Class;"), (0, .class_ 167), (0, u "java/util/Collections$UnmodifiableCollection"), (6, .class_ 175), (0, u "java/util/Collections$UnmodifiableSequencedCollection"), (6, .class_ 183), (0, u "java/util/Collections$UnmodifiableSet"), (6, .class_ 191), (0, u "java/util/Collections$UnmodifiableSequencedSet"), (6, .class_ 199), (0, u "java/util/Collections$UnmodifiableSortedSet"), (6, .class_ 207), (0, u "java/util/Collections$UnmodifiableNavigableSet"), (3, .interfaceMethodref 8 163), (0, .class_ 213), (0, u "java/util/Collections$UnmodifiableList"), (0, .interfaceMethodref 8 163), (0, .class_ 216), (0, u "java/util/Collections$UnmodifiableRandomAccessList"), (0, .methodref 215 218), (0, .nameAndType 5 153), (4, .class_ 224), (0, u "java/util/Collections$UnmodifiableMap"), (6, .class_ 232), (0, u "java/util/Collections$UnmodifiableSequencedMap"), (4, .class_ 238), (0, u "java/util/Collections$UnmodifiableSortedMap"), (6, .class_ 246), (0, u "java/util/Collections$UnmodifiableNavigableMap"), (3, .class_ 251), (0, u "java/util/Collections$SynchronizedCollection"), (4, .class_ 257), (0, u "java/util/Collections$SynchronizedSet"), (4, .class_ 263), (0, u "java/util/Collections$SynchronizedSortedSet"), (1, .class_ 266), (0, u "java/util/Collections$SynchronizedNavigableSet"), (1, .class_ 269), (0, u "java/util/Collections$SynchronizedRandomAccessList"), (1, .class_ 272), (0, u "java/util/Collections$SynchronizedList"), (5, .class_ 279), (0, u "java/util/Collections$SynchronizedMap"), (1, .class_ 282), (0, u "java/util/Collections$SynchronizedSortedMap"), (1, .class_ 285), (0, u "java/util/Collections$SynchronizedNavigableMap"), (1, .class_ 288), (0, u "java/util/Collections$CheckedCollection"), (11, .class_ 301), (0, u "java/util/Collections$CheckedQueue"), (3, .class_ 306), (0, u "java/util/Collections$CheckedSet"), (3, .class_ 311), (0, u "java/util/Collections$CheckedSortedSet"), (3, .class_ 316), (0, u "java/util/Collections$CheckedNavigableSet"), (3, .class_ 321), (0, u "java/util/Collections$CheckedRandomAccessList"), (3, .class_ 326), (0, u "java/util/Collections$CheckedList"), (1, .class_ 329), (0, u "java/util/Collections$CheckedMap"), (3, .class_ 334), (0, u "java/util/Collections$CheckedSortedMap"), (3, .class_ 339), (0, u "java/util/Collections$CheckedNavigableMap"), (4, .class_ 346), (1, u "java/util/Collections$EmptyIterator"), (3, .class_ 352), (1, u "java/util/Collections$EmptyListIterator"), (2, .class_ 357), (1, u "java/util/Collections$EmptyEnumeration"), (4, u "EMPTY_SET"), (0, u "Ljava/util/Set;"), (6, u "EMPTY_LIST"), (0, u "Ljava/util/List;"), (2, u "EMPTY_MAP"), (0, u "Ljava/util/Map;"), (4, .class_ 381), (0, u "java/util/Collections$SingletonSet"), (2, .class_ 385), (0, u "java/util/Collections$1"), (1, .class_ 388), (0, u "java/util/Collections$2"), (1, .class_ 391), (0, u "java/util/Collections$SingletonList"), (1, .class_ 394), (0, u "java/util/Collections$SingletonMap"), (22, .class_ 418), (0, u "java/util/Collections$CopiesList"), (4, .class_ 425), (1, u "java/util/Collections$ReverseComparator"), (8, .class_ 435), (0, u "java/util/Collections$ReverseComparator2"), (6, .class_ 443), (0, u "java/util/Collections$3"), (25, .class_ 470), (0, u "java/util/Collections$SetFromMap"), (2, .class_ 474), (0, u "java/util/Collections$SequencedSetFromMap"), (3, .class_ 479), (0, u "java/util/Collections$AsLIFOQueue"), (11, .class_ 492), (0, u "java/util/Collections$EmptySet"), (1, .class_ 495), (0, u "java/util/Collections$EmptyList"), (1, .class_ 498), (0, u "java/util/Collections$EmptyMap"), (1, u "BINARYSEARCH_THRESHOLD"), (0, u "I"), (2, u "REVERSE_THRESHOLD"), (1, u "SHUFFLE_THRESHOLD"), (1, u "FILL_THRESHOLD"), (1, u "ROTATE_THRESHOLD"), (1, u "COPY_THRESHOLD"), (1, u "REPLACEALL_THRESHOLD"), (1, u "INDEXOFSUBLIST_THRESHOLD"), (129, u "unmodifiableList"), (0, u "(Ljava/util/List;)Ljava/util/List;"), (202, .class_ 851), (0, u "java/util/Collections$CheckedMap$CheckedEntrySet"), (0, .class_ 853), (0, u "java/util/Collections$CheckedMap$CheckedEntrySet$CheckedEntry"), (0, .class_ 855), (0, u "java/util/Collections$CheckedMap$CheckedEntrySet$1"), (0, .class_ 857), (0, u "java/util/Collections$CheckedList$1"), (0, .class_ 859), (0, u "java/util/Collections$CheckedCollection$1"), (0, .class_ 861), (0, u "java/util/Collections$UnmodifiableNavigableMap$EmptyNavigableMap"), (0, .class_ 863), (0, u "java/util/Collections$UnmodifiableMap$UnmodifiableEntrySet"), (0, .class_ 865), (0, u "java/util/Collections$UnmodifiableMap$UnmodifiableEntrySet$UnmodifiableEntry"), (0, .class_ 867), (0, u "java/util/Collections$UnmodifiableMap$UnmodifiableEntrySet$UnmodifiableEntrySetSpliterator"), (0, .class_ 869), (0, u "java/util/Collections$UnmodifiableMap$UnmodifiableEntrySet$1"), (0, .class_ 871), (0, u "java/util/Collections$UnmodifiableList$1"), (0, .class_ 873), (0, u "java/util/Collections$UnmodifiableNavigableSet$EmptyNavigableSet"), (0, .class_ 875), (0, u "java/util/Collections$UnmodifiableCollection$1")] 57
def k44m0 : Method := mT "<init>" "()V" [] none 2 none
def k44c1 : Code := cD 3 1 jdk_79_method_35_code
def k44m1 : Method := mT "unmodifiableList" "(Ljava/util/List;)Ljava/util/List;" [(.object "java/util/List")] (some (.object "java/util/List")) 9 (some k44c1)
def k44 : Class := { plain "java/util/Collections" (some 0) with
  accessFlags := 33
  interfaces := #[]
  cf := some (fileOf pool44 19 #[.nestMembers #[478, 473, 469, 434, 423, 417, 393, 390, 380, 497, 494, 491, 355, 350, 344, 338, 333, 328, 850, 852, 854, 320, 325, 856, 315, 310, 305, 300, 287, 858, 284, 281, 278, 268, 271, 265, 262, 256, 250, 245, 860, 237, 231, 223, 862, 864, 866, 868, 215, 212, 870, 206, 872, 198, 190, 182, 174, 166, 874, 442, 387, 384]] #[mI 2 5 6, mI 9 646 647] 33 2 #[] #[fI 26 500 501, fI 26 504 501, fI 26 506 501, fI 26 508 501, fI 26 510 501, fI 26 512 501, fI 26 514 501, fI 26 516 501, fI 10 84 85, fI 25 362 363, fI 25 370 371, fI 25 374 375])
  fields := #[fD "BINARYSEARCH_THRESHOLD" .int 26 0, fD "REVERSE_THRESHOLD" .int 26 1, fD "SHUFFLE_THRESHOLD" .int 26 2, fD "FILL_THRESHOLD" .int 26 3, fD "ROTATE_THRESHOLD" .int 26 4, fD "COPY_THRESHOLD" .int 26 5, fD "REPLACEALL_THRESHOLD" .int 26 6, fD "INDEXOFSUBLIST_THRESHOLD" .int 26 7, fD "r" (.object "java/util/Random") 10 8, fD "EMPTY_SET" (.object "java/util/Set") 25 9, fD "EMPTY_LIST" (.object "java/util/List") 25 10, fD "EMPTY_MAP" (.object "java/util/Map") 25 11]
  methods := #[k44m0, k44m1]
  instanceTypes := #[]
  staticTypes := #[.int, .int, .int, .int, .int, .int, .int, .int, (.object "java/util/Random"), (.object "java/util/Set"), (.object "java/util/List"), (.object "java/util/Map")]
  resolved := Array.replicate 933 none
  statics := none }
def pool45 : Array CpInfo := pool [(1, .methodref 2 3), (0, .class_ 4), (0, .nameAndType 5 6), (0, u "java/lang/Object"), (0, u "<init>"), (0, u "()V"), (3, .fieldref 11 12), (0, .class_ 13), (0, .nameAndType 14 15), (0, u "java/util/Collections$UnmodifiableCollection"), (0, u "c"), (0, u "Ljava/util/Collection;"), (1, .class_ 19), (1, u "java/util/Collection"), (51, .class_ 72), (0, u "java/io/Serializable"), (0, u "serialVersionUID"), (0, u "J"), (5, u "(Ljava/util/Collection;)V"), (51, .class_ 133), (0, u "java/util/Collections")] 2
def k45c0 : Code := cD 2 2 jdk_119_method_1_code
def k45m0 : Method := mT "<init>" "(Ljava/util/Collection;)V" [(.object "java/util/Collection")] none 0 (some k45c0)
def k45 : Class := { plain "java/util/Collections$UnmodifiableCollection" (some 0) with
  accessFlags := 32
  interfaces := #[3, 10]
  cf := some (fileOf pool45 11 #[.nestHost 132] #[mI 0 5 80] 32 2 #[17, 71] #[fI 26 73 74, fI 16 14 15])
  fields := #[fD "serialVersionUID" .long 26 0, fD "c" (.object "java/util/Collection") 16 0]
  methods := #[k45m0]
  instanceTypes := #[(.object "java/util/Collection")]
  staticTypes := #[.long]
  resolved := Array.replicate 136 none
  statics := none }
def pool46 : Array CpInfo := pool [(1, .methodref 2 3), (0, .class_ 4), (0, .nameAndType 5 6), (0, u "java/util/Collections$UnmodifiableCollection"), (0, u "<init>"), (0, u "(Ljava/util/Collection;)V"), (0, .fieldref 8 9), (0, .class_ 10), (0, .nameAndType 11 12), (0, u "java/util/Collections$UnmodifiableList"), (0, u "list"), (0, u "Ljava/util/List;"), (1, .class_ 16), (1, u "java/util/List"), (37, u "(Ljava/util/List;)V"), (5, u "serialVersionUID"), (0, u "J"), (59, .class_ 122), (0, u "java/util/Collections")] 4
def k46c0 : Code := cD 2 2 jdk_120_method_1_code
def k46m0 : Method := mT "<init>" "(Ljava/util/List;)V" [(.object "java/util/List")] none 0 (some k46c0)
def k46 : Class := { plain "java/util/Collections$UnmodifiableList" (some 45) with
  accessFlags := 32
  interfaces := #[6]
  cf := some (fileOf pool46 8 #[.nestHost 121] #[mI 0 5 54] 32 2 #[14] #[fI 26 60 61, fI 16 11 12])
  fields := #[fD "serialVersionUID" .long 26 0, fD "list" (.object "java/util/List") 16 1]
  methods := #[k46m0]
  instanceTypes := #[(.object "java/util/Collection"), (.object "java/util/List")]
  staticTypes := #[.long]
  resolved := Array.replicate 127 none
  mirror := some 8
  statics := none }
def pool47 : Array CpInfo := pool [(1, .methodref 2 3), (0, .class_ 4), (0, .nameAndType 5 6), (0, u "java/util/Collections$UnmodifiableList"), (0, u "<init>"), (0, u "(Ljava/util/List;)V"), (0, .class_ 8), (0, u "java/util/Collections$UnmodifiableRandomAccessList"), (11, .class_ 21), (0, u "java/util/RandomAccess"), (0, u "serialVersionUID"), (0, u "J"), (23, .class_ 48), (0, u "java/util/Collections")] 3
def k47c0 : Code := cD 2 2 jdk_121_method_1_code
def k47m0 : Method := mT "<init>" "(Ljava/util/List;)V" [(.object "java/util/List")] none 0 (some k47c0)
def k47 : Class := { plain "java/util/Collections$UnmodifiableRandomAccessList" (some 46) with
  accessFlags := 32
  interfaces := #[8]
  cf := some (fileOf pool47 7 #[.nestHost 47] #[mI 0 5 6] 32 2 #[20] #[fI 26 22 23])
  fields := #[fD "serialVersionUID" .long 26 0]
  methods := #[k47m0]
  instanceTypes := #[(.object "java/util/Collection"), (.object "java/util/List")]
  staticTypes := #[.long]
  resolved := Array.replicate 52 none
  mirror := some 9
  statics := none }
def pool48 : Array CpInfo := pool [(9, u "<init>"), (6, .class_ 18), (1, u "java/lang/Object"), (0, u "()V"), (1, .class_ 23), (1, u "jdk/internal/util/ArraysSupport"), (0, u "LOG2_ARRAY_LONG_INDEX_SCALE"), (0, u "I"), (2, u "U"), (0, u "Ljdk/internal/misc/Unsafe;"), (8, u "BIG_ENDIAN"), (0, u "Z"), (8, u "LOG2_BYTE_BIT_SIZE"), (4, u "LOG2_ARRAY_INT_INDEX_SCALE"), (54, u "JLA"), (0, u "Ljdk/internal/access/JavaLangAccess;"), (11, u "LOG2_ARRAY_BOOLEAN_INDEX_SCALE"), (9, u "LOG2_ARRAY_BYTE_INDEX_SCALE"), (5, u "LOG2_ARRAY_CHAR_INDEX_SCALE"), (5, u "LOG2_ARRAY_SHORT_INDEX_SCALE"), (18, u "LOG2_ARRAY_FLOAT_INDEX_SCALE"), (24, u "LOG2_ARRAY_DOUBLE_INDEX_SCALE"), (89, u "T_BOOLEAN"), (2, u "T_CHAR"), (1, u "T_FLOAT"), (1, u "T_DOUBLE"), (1, u "T_BYTE"), (1, u "T_SHORT"), (1, u "T_INT"), (1, u "T_LONG"), (1, u "SOFT_MAX_ARRAY_LENGTH")] 83
def k48m0 : Method := mT "<init>" "()V" [] none 2 none
def k48 : Class := { plain "jdk/internal/util/ArraysSupport" (some 0) with
  accessFlags := 33
  interfaces := #[]
  cf := some (fileOf pool48 21 #[] #[mI 2 9 19] 33 16 #[] #[fI 24 28 29, fI 26 38 39, fI 25 121 25, fI 25 131 25, fI 25 137 25, fI 25 143 25, fI 25 53 25, fI 25 24 25, fI 25 162 25, fI 25 187 25, fI 26 48 25, fI 25 277 25, fI 25 280 25, fI 25 282 25, fI 25 284 25, fI 25 286 25, fI 25 288 25, fI 25 290 25, fI 25 292 25, fI 26 108 109, fI 25 294 25])
  fields := #[fD "U" (.object "jdk/internal/misc/Unsafe") 24 0, fD "BIG_ENDIAN" .boolean 26 1, fD "LOG2_ARRAY_BOOLEAN_INDEX_SCALE" .int 25 2, fD "LOG2_ARRAY_BYTE_INDEX_SCALE" .int 25 3, fD "LOG2_ARRAY_CHAR_INDEX_SCALE" .int 25 4, fD "LOG2_ARRAY_SHORT_INDEX_SCALE" .int 25 5, fD "LOG2_ARRAY_INT_INDEX_SCALE" .int 25 6, fD "LOG2_ARRAY_LONG_INDEX_SCALE" .int 25 7, fD "LOG2_ARRAY_FLOAT_INDEX_SCALE" .int 25 8, fD "LOG2_ARRAY_DOUBLE_INDEX_SCALE" .int 25 9, fD "LOG2_BYTE_BIT_SIZE" .int 26 10, fD "T_BOOLEAN" .int 25 11, fD "T_CHAR" .int 25 12, fD "T_FLOAT" .int 25 13, fD "T_DOUBLE" .int 25 14, fD "T_BYTE" .int 25 15, fD "T_SHORT" .int 25 16, fD "T_INT" .int 25 17, fD "T_LONG" .int 25 18, fD "JLA" (.object "jdk/internal/access/JavaLangAccess") 26 19, fD "SOFT_MAX_ARRAY_LENGTH" .int 25 20]
  methods := #[k48m0]
  instanceTypes := #[]
  staticTypes := #[(.object "jdk/internal/misc/Unsafe"), .boolean, .int, .int, .int, .int, .int, .int, .int, .int, .int, .int, .int, .int, .int, .int, .int, .int, .int, (.object "jdk/internal/access/JavaLangAccess"), .int]
  resolved := Array.replicate 378 none
  statics := none }
def k49 : Class := { plain "byte" none with kind := .primitive 'B', accessFlags := 0x411 }
def k50 : Class := { plain "[B" (some 0) with kind := .array 49 .byte, interfaces := #[9, 10], accessFlags := 1041 }
def k51 : Class := { plain "int" none with kind := .primitive 'I', accessFlags := 0x411 }
def k52 : Class := { plain "[I" (some 0) with kind := .array 51 .int, interfaces := #[9, 10], accessFlags := 1041 }
def k53 : Class := { plain "long" none with kind := .primitive 'J', accessFlags := 0x411 }
def k54 : Class := { plain "[J" (some 0) with kind := .array 53 .long, interfaces := #[9, 10], accessFlags := 1041 }
def k55 : Class := { plain "[Ljava/lang/Integer;" (some 0) with kind := .array 38 (.object "java/lang/Integer"), interfaces := #[9, 10], accessFlags := 1041 }
def k56 : Class := { plain "[Ljava/lang/Object;" (some 0) with kind := .array 0 (.object "java/lang/Object"), interfaces := #[9, 10], accessFlags := 1041, mirror := some 6 }
def k57 : Class := { plain "[Ljava/util/HashMap$Node;" (some 0) with kind := .array 41 (.object "java/util/HashMap$Node"), interfaces := #[9, 10], accessFlags := 1041 }
def heap : Heap := #[{ cls := 11, slots := #[.long 0, .int 0, .ref 267, .ref 268], vm := .statics 11 },
  { cls := 16, slots := #[.long 0, .int 1, .null, .int 0, .null, .int 0, .int 0], vm := .statics 16 },
  { cls := 26, slots := #[.int 0, .int 0, .int 0, .long 0, .null, .long 0, .int 1], vm := .statics 26 },
  { cls := 27, slots := #[.long 0, .int 0, .null, .ref 269, .ref 270, .null, .null, .null, .int 0, .int 1], vm := .statics 27 },
  { cls := 39, slots := #[.int 0, .int 127, .ref 10, .null, .int 0], vm := .statics 39 },
  { cls := 42, slots := #[.null, .null, .null], vm := .statics 42 },
  { cls := 0, slots := #[], vm := .mirror 56 },
  { cls := 0, slots := #[], vm := .mirror 11 },
  { cls := 0, slots := #[], vm := .mirror 46 },
  { cls := 0, slots := #[], vm := .mirror 47 },
  { cls := 55, slots := #[.ref 11, .ref 12, .ref 13, .ref 14, .ref 15, .ref 16, .ref 17, .ref 18, .ref 19, .ref 20, .ref 21, .ref 22, .ref 23, .ref 24, .ref 25, .ref 26, .ref 27, .ref 28, .ref 29, .ref 30, .ref 31, .ref 32, .ref 33, .ref 34, .ref 35, .ref 36, .ref 37, .ref 38, .ref 39, .ref 40, .ref 41, .ref 42, .ref 43, .ref 44, .ref 45, .ref 46, .ref 47, .ref 48, .ref 49, .ref 50, .ref 51, .ref 52, .ref 53, .ref 54, .ref 55, .ref 56, .ref 57, .ref 58, .ref 59, .ref 60, .ref 61, .ref 62, .ref 63, .ref 64, .ref 65, .ref 66, .ref 67, .ref 68, .ref 69, .ref 70, .ref 71, .ref 72, .ref 73, .ref 74, .ref 75, .ref 76, .ref 77, .ref 78, .ref 79, .ref 80, .ref 81, .ref 82, .ref 83, .ref 84, .ref 85, .ref 86, .ref 87, .ref 88, .ref 89, .ref 90, .ref 91, .ref 92, .ref 93, .ref 94, .ref 95, .ref 96, .ref 97, .ref 98, .ref 99, .ref 100, .ref 101, .ref 102, .ref 103, .ref 104, .ref 105, .ref 106, .ref 107, .ref 108, .ref 109, .ref 110, .ref 111, .ref 112, .ref 113, .ref 114, .ref 115, .ref 116, .ref 117, .ref 118, .ref 119, .ref 120, .ref 121, .ref 122, .ref 123, .ref 124, .ref 125, .ref 126, .ref 127, .ref 128, .ref 129, .ref 130, .ref 131, .ref 132, .ref 133, .ref 134, .ref 135, .ref 136, .ref 137, .ref 138, .ref 139, .ref 140, .ref 141, .ref 142, .ref 143, .ref 144, .ref 145, .ref 146, .ref 147, .ref 148, .ref 149, .ref 150, .ref 151, .ref 152, .ref 153, .ref 154, .ref 155, .ref 156, .ref 157, .ref 158, .ref 159, .ref 160, .ref 161, .ref 162, .ref 163, .ref 164, .ref 165, .ref 166, .ref 167, .ref 168, .ref 169, .ref 170, .ref 171, .ref 172, .ref 173, .ref 174, .ref 175, .ref 176, .ref 177, .ref 178, .ref 179, .ref 180, .ref 181, .ref 182, .ref 183, .ref 184, .ref 185, .ref 186, .ref 187, .ref 188, .ref 189, .ref 190, .ref 191, .ref 192, .ref 193, .ref 194, .ref 195, .ref 196, .ref 197, .ref 198, .ref 199, .ref 200, .ref 201, .ref 202, .ref 203, .ref 204, .ref 205, .ref 206, .ref 207, .ref 208, .ref 209, .ref 210, .ref 211, .ref 212, .ref 213, .ref 214, .ref 215, .ref 216, .ref 217, .ref 218, .ref 219, .ref 220, .ref 221, .ref 222, .ref 223, .ref 224, .ref 225, .ref 226, .ref 227, .ref 228, .ref 229, .ref 230, .ref 231, .ref 232, .ref 233, .ref 234, .ref 235, .ref 236, .ref 237, .ref 238, .ref 239, .ref 240, .ref 241, .ref 242, .ref 243, .ref 244, .ref 245, .ref 246, .ref 247, .ref 248, .ref 249, .ref 250, .ref 251, .ref 252, .ref 253, .ref 254, .ref 255, .ref 256, .ref 257, .ref 258, .ref 259, .ref 260, .ref 261, .ref 262, .ref 263, .ref 264, .ref 265, .ref 266], vm := .none }, iC (-128), iC (-127), iC (-126), iC (-125), iC (-124), iC (-123), iC (-122), iC (-121), iC (-120), iC (-119), iC (-118), iC (-117), iC (-116), iC (-115), iC (-114), iC (-113), iC (-112), iC (-111), iC (-110), iC (-109), iC (-108), iC (-107), iC (-106), iC (-105), iC (-104), iC (-103), iC (-102), iC (-101), iC (-100), iC (-99), iC (-98), iC (-97), iC (-96), iC (-95), iC (-94), iC (-93), iC (-92), iC (-91), iC (-90), iC (-89), iC (-88), iC (-87), iC (-86), iC (-85), iC (-84), iC (-83), iC (-82), iC (-81), iC (-80), iC (-79), iC (-78), iC (-77), iC (-76), iC (-75), iC (-74), iC (-73), iC (-72), iC (-71), iC (-70), iC (-69), iC (-68), iC (-67), iC (-66), iC (-65), iC (-64), iC (-63), iC (-62), iC (-61), iC (-60), iC (-59), iC (-58), iC (-57), iC (-56), iC (-55), iC (-54), iC (-53), iC (-52), iC (-51), iC (-50), iC (-49), iC (-48), iC (-47), iC (-46), iC (-45), iC (-44), iC (-43), iC (-42), iC (-41), iC (-40), iC (-39), iC (-38), iC (-37), iC (-36), iC (-35), iC (-34), iC (-33), iC (-32), iC (-31), iC (-30), iC (-29), iC (-28), iC (-27), iC (-26), iC (-25), iC (-24), iC (-23), iC (-22), iC (-21), iC (-20), iC (-19), iC (-18), iC (-17), iC (-16), iC (-15), iC (-14), iC (-13), iC (-12), iC (-11), iC (-10), iC (-9), iC (-8), iC (-7), iC (-6), iC (-5), iC (-4), iC (-3), iC (-2), iC (-1), iC 0, iC 1, iC 2, iC 3, iC 4, iC 5, iC 6, iC 7, iC 8, iC 9, iC 10, iC 11, iC 12, iC 13, iC 14, iC 15, iC 16, iC 17, iC 18, iC 19, iC 20, iC 21, iC 22, iC 23, iC 24, iC 25, iC 26, iC 27, iC 28, iC 29, iC 30, iC 31, iC 32, iC 33, iC 34, iC 35, iC 36, iC 37, iC 38, iC 39, iC 40, iC 41, iC 42, iC 43, iC 44, iC 45, iC 46, iC 47, iC 48, iC 49, iC 50, iC 51, iC 52, iC 53, iC 54, iC 55, iC 56, iC 57, iC 58, iC 59, iC 60, iC 61, iC 62, iC 63, iC 64, iC 65, iC 66, iC 67, iC 68, iC 69, iC 70, iC 71, iC 72, iC 73, iC 74, iC 75, iC 76, iC 77, iC 78, iC 79, iC 80, iC 81, iC 82, iC 83, iC 84, iC 85, iC 86, iC 87, iC 88, iC 89, iC 90, iC 91, iC 92, iC 93, iC 94, iC 95, iC 96, iC 97, iC 98, iC 99, iC 100, iC 101, iC 102, iC 103, iC 104, iC 105, iC 106, iC 107, iC 108, iC 109, iC 110, iC 111, iC 112, iC 113, iC 114, iC 115, iC 116, iC 117, iC 118, iC 119, iC 120, iC 121, iC 122, iC 123, iC 124, iC 125, iC 126, iC 127,
  { cls := 56, slots := #[], vm := .none },
  { cls := 56, slots := #[], vm := .none },
  { cls := 0, slots := #[], vm := .none },
  { cls := 31, slots := #[.null, .int 0], vm := .none }]
def classes : Array Class := #[k0, k1, k2, k3, k4, k5, k6, k7, k8, k9, k10, k11, k12, k13, k14, k15, k16, k17, k18, k19, k20, k21, k22, k23, k24, k25, k26, k27, k28, k29, k30, k31, k32, k33, k34, k35, k36, k37, k38, k39, k40, k41, k42, k43, k44, k45, k46, k47, k48, k49, k50, k51, k52, k53, k54, k55, k56, k57]
def interned : List (Array UInt16 × Addr) := []
def slotsUsed : Nat := 550
def theMethod : MethodId := ⟨1, 3⟩
def args0 : Array Value := #[.int 5, .int 5, .int 5, .int 5]
def aboutOver (below : List Frame) : State where
  vm := { classes := classes, interned := interned.toArray }
  heap := heap
  slotsUsed := slotsUsed
  threads := #[{ frames := .invoking theMethod args0 :: below }]
def below0 : List Frame := [.native { method := ⟨0, 0⟩, args := #[] }]
def about1 : State := aboutOver below0
def p0 : Program := .bare "" "" ""
def e0 : Env := launch0.env 0 0 0
theorem w_frames : about1.frames = Frame.invoking theMethod args0 :: below0 := rfl
theorem w_args : argsFit about1.vm theMethod args0 = true := by decide +kernel
theorem w_heap : heapFits about1 = true := by decide +kernel
theorem w_runnable : about1.curStatus? = some .runnable := by decide +kernel
theorem w_alone : about1.alone = true := by decide +kernel
theorem w_named : about1.methodNamed? x = some theMethod := by decide +kernel
theorem w_hears : about1.hears theMethod below0 = true := by decide +kernel
theorem w_ripe : about1.ripe theMethod args0 below0 = true := by decide +kernel
theorem w_running : about1.status = .running := rfl
theorem w_room : about1.hasRoom e0.platform room_1 = true :=
  launch0.hasRoom_least _ room_1 (by decide +kernel) (by decide +kernel) (by decide +kernel) (by decide +kernel) (by decide +kernel) (by decide +kernel)
theorem allAtoms_all (ts : List Jvm.Cond) (a : Array Jvm.Value) (st : Jvm.State) : (allAtoms ts).before a st = ts.all (fun c => c.before a st) := by
  induction ts with
  | nil => rfl
  | cons c t ih =>
    show (Jvm.Cond.and c (allAtoms t)).before a st = _
    rw [Jvm.Cond.before_and, ih, List.all_cons]
def words1 : List Jvm.Cond := Jvm.Cond.code x code maxLocals ret :: tables_1
theorem code_word {y : MethodName} {bytes : ByteArray} {mx : Nat} {rt : Option FieldType} {a : Array Value} {s : State} {m : MethodId} {meth : Method} {c : Code} (h1 : s.methodNamed? y = some m) (h2 : s.vm.method? m = some meth) (h3 : meth.code = some c) (h4 : c.code = bytes)
    (h5 : (c.maxLocals == mx && c.exceptionTable.isEmpty && decide (c.maxStack ≤ mostOperands) && decide (meth.sig.returnType = rt) && !meth.locks && decide (parseMethodDescriptor y.desc = some meth.sig)) = true) : (Jvm.Cond.code y bytes mx rt).before a s = true := by
  simp only [Bool.and_eq_true, beq_iff_eq, Bool.not_eq_true', decide_eq_true_eq] at h5
  obtain ⟨⟨⟨⟨⟨g1, g2⟩, g3⟩, g4⟩, g5⟩, g6⟩ := h5
  simp [Cond.before, Cond.holds, Cond.value, h1, h2, h3, h4, g1, g2, g3, g4, g5, g6]
def isCode : Jvm.Cond → Bool
  | .code _ _ _ _ => true
  | _ => false
theorem all_split {L : List Jvm.Cond} {P : Jvm.Cond → Bool} (h1 : L.all (fun c => isCode c || P c) = true) (h2 : ∀ c ∈ L.filter isCode, P c = true) : L.all P = true := by
  refine List.all_eq_true.mpr fun c hc => ?_
  have h := List.all_eq_true.mp h1 c hc
  rcases Bool.eq_false_or_eq_true (isCode c) with hi | hi
  · exact h2 c (List.mem_filter.mpr ⟨hc, hi⟩)
  · simpa [hi] using h
def cQ (i : Nat) : Jvm.Cond := (words1[i]?).getD .tt
abbrev oc (i : Nat) : Prop := (cQ i).before args0 about1 = true
theorem w_c0 : oc 0 := code_word (m := ⟨1, 3⟩) (meth := k1m3) (c := k1c3) (by decide +kernel) rfl rfl rfl (by decide +kernel)
theorem w_c1 : oc 7 := code_word (m := ⟨11, 0⟩) (meth := k11m0) (c := k11c0) (by decide +kernel) rfl rfl rfl (by decide +kernel)
theorem w_c2 : oc 13 := code_word (m := ⟨7, 0⟩) (meth := k7m0) (c := k7c0) (by decide +kernel) rfl rfl rfl (by decide +kernel)
theorem w_c3 : oc 19 := code_word (m := ⟨4, 0⟩) (meth := k4m0) (c := k4c0) (by decide +kernel) rfl rfl rfl (by decide +kernel)
theorem w_c4 : oc 22 := code_word (m := ⟨0, 0⟩) (meth := k0m0) (c := k0c0) (by decide +kernel) rfl rfl rfl (by decide +kernel)
theorem w_c5 : oc 31 := code_word (m := ⟨1, 1⟩) (meth := k1m1) (c := k1c1) (by decide +kernel) rfl rfl rfl (by decide +kernel)
theorem w_c6 : oc 35 := code_word (m := ⟨16, 3⟩) (meth := k16m3) (c := k16c3) (by decide +kernel) rfl rfl rfl (by decide +kernel)
theorem w_c7 : oc 40 := code_word (m := ⟨17, 1⟩) (meth := k17m1) (c := k17c1) (by decide +kernel) rfl rfl rfl (by decide +kernel)
theorem w_c8 : oc 45 := code_word (m := ⟨17, 4⟩) (meth := k17m4) (c := k17c4) (by decide +kernel) rfl rfl rfl (by decide +kernel)
theorem w_c9 : oc 50 := code_word (m := ⟨16, 4⟩) (meth := k16m4) (c := k16c4) (by decide +kernel) rfl rfl rfl (by decide +kernel)
theorem w_c10 : oc 60 := code_word (m := ⟨11, 9⟩) (meth := k11m9) (c := k11c9) (by decide +kernel) rfl rfl rfl (by decide +kernel)
theorem w_c11 : oc 69 := code_word (m := ⟨11, 8⟩) (meth := k11m8) (c := k11c8) (by decide +kernel) rfl rfl rfl (by decide +kernel)
theorem w_c12 : oc 74 := code_word (m := ⟨11, 2⟩) (meth := k11m2) (c := k11c2) (by decide +kernel) rfl rfl rfl (by decide +kernel)
theorem w_c13 : oc 79 := code_word (m := ⟨11, 1⟩) (meth := k11m1) (c := k11c1) (by decide +kernel) rfl rfl rfl (by decide +kernel)
theorem w_c14 : oc 83 := code_word (m := ⟨18, 1⟩) (meth := k18m1) (c := k18c1) (by decide +kernel) rfl rfl rfl (by decide +kernel)
theorem w_c15 : oc 92 := code_word (m := ⟨20, 0⟩) (meth := k20m0) (c := k20c0) (by decide +kernel) rfl rfl rfl (by decide +kernel)
theorem w_c16 : oc 97 := code_word (m := ⟨19, 0⟩) (meth := k19m0) (c := k19c0) (by decide +kernel) rfl rfl rfl (by decide +kernel)
theorem w_c17 : oc 105 := code_word (m := ⟨21, 2⟩) (meth := k21m2) (c := k21c2) (by decide +kernel) rfl rfl rfl (by decide +kernel)
theorem w_c18 : oc 117 := code_word (m := ⟨22, 0⟩) (meth := k22m0) (c := k22c0) (by decide +kernel) rfl rfl rfl (by decide +kernel)
theorem w_c19 : oc 124 := code_word (m := ⟨25, 1⟩) (meth := k25m1) (c := k25c1) (by decide +kernel) rfl rfl rfl (by decide +kernel)
theorem w_c20 : oc 130 := code_word (m := ⟨24, 0⟩) (meth := k24m0) (c := k24c0) (by decide +kernel) rfl rfl rfl (by decide +kernel)
theorem w_c21 : oc 142 := code_word (m := ⟨26, 2⟩) (meth := k26m2) (c := k26c2) (by decide +kernel) rfl rfl rfl (by decide +kernel)
theorem w_c22 : oc 152 := code_word (m := ⟨26, 3⟩) (meth := k26m3) (c := k26c3) (by decide +kernel) rfl rfl rfl (by decide +kernel)
theorem w_c23 : oc 155 := code_word (m := ⟨26, 0⟩) (meth := k26m0) (c := k26c0) (by decide +kernel) rfl rfl rfl (by decide +kernel)
theorem w_c24 : oc 169 := code_word (m := ⟨6, 5⟩) (meth := k6m5) (c := k6c5) (by decide +kernel) rfl rfl rfl (by decide +kernel)
theorem w_c25 : oc 173 := code_word (m := ⟨27, 1⟩) (meth := k27m1) (c := k27c1) (by decide +kernel) rfl rfl rfl (by decide +kernel)
theorem w_c26 : oc 188 := code_word (m := ⟨11, 4⟩) (meth := k11m4) (c := k11c4) (by decide +kernel) rfl rfl rfl (by decide +kernel)
theorem w_c27 : oc 196 := code_word (m := ⟨11, 5⟩) (meth := k11m5) (c := k11c5) (by decide +kernel) rfl rfl rfl (by decide +kernel)
theorem w_c28 : oc 200 := code_word (m := ⟨32, 1⟩) (meth := k32m1) (c := k32c1) (by decide +kernel) rfl rfl rfl (by decide +kernel)
theorem w_c29 : oc 209 := code_word (m := ⟨32, 2⟩) (meth := k32m2) (c := k32c2) (by decide +kernel) rfl rfl rfl (by decide +kernel)
theorem w_c30 : oc 214 := code_word (m := ⟨18, 2⟩) (meth := k18m2) (c := k18c2) (by decide +kernel) rfl rfl rfl (by decide +kernel)
theorem w_c31 : oc 221 := code_word (m := ⟨6, 4⟩) (meth := k6m4) (c := k6c4) (by decide +kernel) rfl rfl rfl (by decide +kernel)
theorem w_c32 : oc 228 := code_word (m := ⟨30, 0⟩) (meth := k30m0) (c := k30c0) (by decide +kernel) rfl rfl rfl (by decide +kernel)
theorem w_c33 : oc 234 := code_word (m := ⟨29, 0⟩) (meth := k29m0) (c := k29c0) (by decide +kernel) rfl rfl rfl (by decide +kernel)
theorem w_c34 : oc 240 := code_word (m := ⟨28, 0⟩) (meth := k28m0) (c := k28c0) (by decide +kernel) rfl rfl rfl (by decide +kernel)
theorem w_c35 : oc 245 := code_word (m := ⟨21, 1⟩) (meth := k21m1) (c := k21c1) (by decide +kernel) rfl rfl rfl (by decide +kernel)
theorem w_c36 : oc 261 := code_word (m := ⟨29, 1⟩) (meth := k29m1) (c := k29c1) (by decide +kernel) rfl rfl rfl (by decide +kernel)
theorem w_c37 : oc 270 := code_word (m := ⟨30, 2⟩) (meth := k30m2) (c := k30c2) (by decide +kernel) rfl rfl rfl (by decide +kernel)
theorem w_c38 : oc 274 := code_word (m := ⟨36, 0⟩) (meth := k36m0) (c := k36c0) (by decide +kernel) rfl rfl rfl (by decide +kernel)
theorem w_c39 : oc 292 := code_word (m := ⟨36, 1⟩) (meth := k36m1) (c := k36c1) (by decide +kernel) rfl rfl rfl (by decide +kernel)
theorem w_c40 : oc 308 := code_word (m := ⟨30, 3⟩) (meth := k30m3) (c := k30c3) (by decide +kernel) rfl rfl rfl (by decide +kernel)
theorem w_c41 : oc 317 := code_word (m := ⟨25, 2⟩) (meth := k25m2) (c := k25c2) (by decide +kernel) rfl rfl rfl (by decide +kernel)
theorem w_c42 : oc 323 := code_word (m := ⟨38, 0⟩) (meth := k38m0) (c := k38c0) (by decide +kernel) rfl rfl rfl (by decide +kernel)
theorem w_c43 : oc 334 := code_word (m := ⟨25, 7⟩) (meth := k25m7) (c := k25c7) (by decide +kernel) rfl rfl rfl (by decide +kernel)
theorem w_c44 : oc 337 := code_word (m := ⟨25, 0⟩) (meth := k25m0) (c := k25c0) (by decide +kernel) rfl rfl rfl (by decide +kernel)
theorem w_c45 : oc 343 := code_word (m := ⟨16, 2⟩) (meth := k16m2) (c := k16c2) (by decide +kernel) rfl rfl rfl (by decide +kernel)
theorem w_c46 : oc 352 := code_word (m := ⟨16, 5⟩) (meth := k16m5) (c := k16c5) (by decide +kernel) rfl rfl rfl (by decide +kernel)
theorem w_c47 : oc 355 := code_word (m := ⟨17, 3⟩) (meth := k17m3) (c := k17c3) (by decide +kernel) rfl rfl rfl (by decide +kernel)
theorem w_c48 : oc 360 := code_word (m := ⟨25, 4⟩) (meth := k25m4) (c := k25c4) (by decide +kernel) rfl rfl rfl (by decide +kernel)
theorem w_c49 : oc 367 := code_word (m := ⟨25, 5⟩) (meth := k25m5) (c := k25c5) (by decide +kernel) rfl rfl rfl (by decide +kernel)
theorem w_c50 : oc 376 := code_word (m := ⟨25, 8⟩) (meth := k25m8) (c := k25c8) (by decide +kernel) rfl rfl rfl (by decide +kernel)
theorem w_c51 : oc 382 := code_word (m := ⟨41, 0⟩) (meth := k41m0) (c := k41c0) (by decide +kernel) rfl rfl rfl (by decide +kernel)
theorem w_c52 : oc 398 := code_word (m := ⟨25, 9⟩) (meth := k25m9) (c := k25c9) (by decide +kernel) rfl rfl rfl (by decide +kernel)
theorem w_c53 : oc 407 := code_word (m := ⟨11, 3⟩) (meth := k11m3) (c := k11c3) (by decide +kernel) rfl rfl rfl (by decide +kernel)
theorem w_c54 : oc 418 := code_word (m := ⟨11, 7⟩) (meth := k11m7) (c := k11c7) (by decide +kernel) rfl rfl rfl (by decide +kernel)
theorem w_c55 : oc 421 := code_word (m := ⟨21, 3⟩) (meth := k21m3) (c := k21c3) (by decide +kernel) rfl rfl rfl (by decide +kernel)
theorem w_c56 : oc 425 := code_word (m := ⟨42, 1⟩) (meth := k42m1) (c := k42c1) (by decide +kernel) rfl rfl rfl (by decide +kernel)
theorem w_c57 : oc 430 := code_word (m := ⟨11, 6⟩) (meth := k11m6) (c := k11c6) (by decide +kernel) rfl rfl rfl (by decide +kernel)
theorem w_c58 : oc 437 := code_word (m := ⟨20, 1⟩) (meth := k20m1) (c := k20c1) (by decide +kernel) rfl rfl rfl (by decide +kernel)
theorem w_c59 : oc 442 := code_word (m := ⟨22, 1⟩) (meth := k22m1) (c := k22c1) (by decide +kernel) rfl rfl rfl (by decide +kernel)
theorem w_c60 : oc 450 := code_word (m := ⟨25, 6⟩) (meth := k25m6) (c := k25c6) (by decide +kernel) rfl rfl rfl (by decide +kernel)
theorem w_c61 : oc 455 := code_word (m := ⟨25, 3⟩) (meth := k25m3) (c := k25c3) (by decide +kernel) rfl rfl rfl (by decide +kernel)
theorem w_c62 : oc 463 := code_word (m := ⟨16, 1⟩) (meth := k16m1) (c := k16c1) (by decide +kernel) rfl rfl rfl (by decide +kernel)
theorem w_c63 : oc 466 := code_word (m := ⟨17, 2⟩) (meth := k17m2) (c := k17c2) (by decide +kernel) rfl rfl rfl (by decide +kernel)
theorem w_c64 : oc 474 := code_word (m := ⟨38, 1⟩) (meth := k38m1) (c := k38c1) (by decide +kernel) rfl rfl rfl (by decide +kernel)
theorem w_c65 : oc 481 := code_word (m := ⟨20, 2⟩) (meth := k20m2) (c := k20c2) (by decide +kernel) rfl rfl rfl (by decide +kernel)
theorem w_c66 : oc 486 := code_word (m := ⟨26, 6⟩) (meth := k26m6) (c := k26c6) (by decide +kernel) rfl rfl rfl (by decide +kernel)
theorem w_c67 : oc 491 := code_word (m := ⟨26, 5⟩) (meth := k26m5) (c := k26c5) (by decide +kernel) rfl rfl rfl (by decide +kernel)
theorem w_c68 : oc 496 := code_word (m := ⟨26, 4⟩) (meth := k26m4) (c := k26c4) (by decide +kernel) rfl rfl rfl (by decide +kernel)
theorem w_c69 : oc 501 := code_word (m := ⟨26, 1⟩) (meth := k26m1) (c := k26c1) (by decide +kernel) rfl rfl rfl (by decide +kernel)
theorem w_c70 : oc 512 := code_word (m := ⟨32, 3⟩) (meth := k32m3) (c := k32c3) (by decide +kernel) rfl rfl rfl (by decide +kernel)
theorem w_c71 : oc 519 := code_word (m := ⟨11, 10⟩) (meth := k11m10) (c := k11c10) (by decide +kernel) rfl rfl rfl (by decide +kernel)
theorem w_c72 : oc 526 := code_word (m := ⟨43, 0⟩) (meth := k43m0) (c := k43c0) (by decide +kernel) rfl rfl rfl (by decide +kernel)
theorem w_c73 : oc 540 := code_word (m := ⟨43, 1⟩) (meth := k43m1) (c := k43c1) (by decide +kernel) rfl rfl rfl (by decide +kernel)
theorem w_c74 : oc 547 := code_word (m := ⟨44, 1⟩) (meth := k44m1) (c := k44c1) (by decide +kernel) rfl rfl rfl (by decide +kernel)
theorem w_c75 : oc 565 := code_word (m := ⟨47, 0⟩) (meth := k47m0) (c := k47c0) (by decide +kernel) rfl rfl rfl (by decide +kernel)
theorem w_c76 : oc 571 := code_word (m := ⟨46, 0⟩) (meth := k46m0) (c := k46c0) (by decide +kernel) rfl rfl rfl (by decide +kernel)
theorem w_c77 : oc 577 := code_word (m := ⟨45, 0⟩) (meth := k45m0) (c := k45c0) (by decide +kernel) rfl rfl rfl (by decide +kernel)
theorem w_c78 : oc 589 := code_word (m := ⟨22, 2⟩) (meth := k22m2) (c := k22c2) (by decide +kernel) rfl rfl rfl (by decide +kernel)
theorem w_c79 : oc 592 := code_word (m := ⟨1, 2⟩) (meth := k1m2) (c := k1c2) (by decide +kernel) rfl rfl rfl (by decide +kernel)
theorem w_c80 : oc 595 := code_word (m := ⟨30, 1⟩) (meth := k30m1) (c := k30c1) (by decide +kernel) rfl rfl rfl (by decide +kernel)
theorem w_c81 : oc 598 := code_word (m := ⟨27, 2⟩) (meth := k27m2) (c := k27c2) (by decide +kernel) rfl rfl rfl (by decide +kernel)
theorem w_c82 : oc 606 := code_word (m := ⟨31, 0⟩) (meth := k31m0) (c := k31c0) (by decide +kernel) rfl rfl rfl (by decide +kernel)
theorem w_c83 : oc 620 := code_word (m := ⟨31, 1⟩) (meth := k31m1) (c := k31c1) (by decide +kernel) rfl rfl rfl (by decide +kernel)
theorem w_c84 : oc 625 := code_word (m := ⟨31, 2⟩) (meth := k31m2) (c := k31c2) (by decide +kernel) rfl rfl rfl (by decide +kernel)
def codes1 : List Jvm.Cond := [cQ 0, cQ 7, cQ 13, cQ 19, cQ 22, cQ 31, cQ 35, cQ 40, cQ 45, cQ 50, cQ 60, cQ 69, cQ 74, cQ 79, cQ 83, cQ 92, cQ 97, cQ 105, cQ 117, cQ 124, cQ 130, cQ 142, cQ 152, cQ 155, cQ 169, cQ 173, cQ 188, cQ 196, cQ 200, cQ 209, cQ 214, cQ 221, cQ 228, cQ 234, cQ 240, cQ 245, cQ 261, cQ 270, cQ 274, cQ 292, cQ 308, cQ 317, cQ 323, cQ 334, cQ 337, cQ 343, cQ 352, cQ 355, cQ 360, cQ 367, cQ 376, cQ 382, cQ 398, cQ 407, cQ 418, cQ 421, cQ 425, cQ 430, cQ 437, cQ 442, cQ 450, cQ 455, cQ 463, cQ 466, cQ 474, cQ 481, cQ 486, cQ 491, cQ 496, cQ 501, cQ 512, cQ 519, cQ 526, cQ 540, cQ 547, cQ 565, cQ 571, cQ 577, cQ 589, cQ 592, cQ 595, cQ 598, cQ 606, cQ 620, cQ 625]
theorem codes_eq : words1.filter isCode = codes1 := rfl
theorem w_codes : ∀ c ∈ words1.filter isCode, c.before args0 about1 = true := by
  rw [codes_eq]
  intro c hc
  simp only [codes1, List.mem_cons, List.not_mem_nil, or_false] at hc
  rcases hc with rfl | rfl | rfl | rfl | rfl | rfl | rfl | rfl | rfl | rfl | rfl | rfl | rfl | rfl | rfl | rfl | rfl | rfl | rfl | rfl | rfl | rfl | rfl | rfl | rfl | rfl | rfl | rfl | rfl | rfl | rfl | rfl | rfl | rfl | rfl | rfl | rfl | rfl | rfl | rfl | rfl | rfl | rfl | rfl | rfl | rfl | rfl | rfl | rfl | rfl | rfl | rfl | rfl | rfl | rfl | rfl | rfl | rfl | rfl | rfl | rfl | rfl | rfl | rfl | rfl | rfl | rfl | rfl | rfl | rfl | rfl | rfl | rfl | rfl | rfl | rfl | rfl | rfl | rfl | rfl | rfl | rfl | rfl | rfl | rfl
  · exact w_c0
  · exact w_c1
  · exact w_c2
  · exact w_c3
  · exact w_c4
  · exact w_c5
  · exact w_c6
  · exact w_c7
  · exact w_c8
  · exact w_c9
  · exact w_c10
  · exact w_c11
  · exact w_c12
  · exact w_c13
  · exact w_c14
  · exact w_c15
  · exact w_c16
  · exact w_c17
  · exact w_c18
  · exact w_c19
  · exact w_c20
  · exact w_c21
  · exact w_c22
  · exact w_c23
  · exact w_c24
  · exact w_c25
  · exact w_c26
  · exact w_c27
  · exact w_c28
  · exact w_c29
  · exact w_c30
  · exact w_c31
  · exact w_c32
  · exact w_c33
  · exact w_c34
  · exact w_c35
  · exact w_c36
  · exact w_c37
  · exact w_c38
  · exact w_c39
  · exact w_c40
  · exact w_c41
  · exact w_c42
  · exact w_c43
  · exact w_c44
  · exact w_c45
  · exact w_c46
  · exact w_c47
  · exact w_c48
  · exact w_c49
  · exact w_c50
  · exact w_c51
  · exact w_c52
  · exact w_c53
  · exact w_c54
  · exact w_c55
  · exact w_c56
  · exact w_c57
  · exact w_c58
  · exact w_c59
  · exact w_c60
  · exact w_c61
  · exact w_c62
  · exact w_c63
  · exact w_c64
  · exact w_c65
  · exact w_c66
  · exact w_c67
  · exact w_c68
  · exact w_c69
  · exact w_c70
  · exact w_c71
  · exact w_c72
  · exact w_c73
  · exact w_c74
  · exact w_c75
  · exact w_c76
  · exact w_c77
  · exact w_c78
  · exact w_c79
  · exact w_c80
  · exact w_c81
  · exact w_c82
  · exact w_c83
  · exact w_c84
def dW : Nat → List Jvm.Cond
  | 0 => words1
  | n + 1 => (dW n).drop 24
abbrev cP (c : Jvm.Cond) : Bool := isCode c || c.before args0 about1
theorem cT {n : Nat} (h1 : ((dW n).take 24).all cP = true) (h2 : (dW (n + 1)).all cP = true) : (dW n).all cP = true := by
  rw [← List.take_append_drop 24 (dW n), List.all_append, h1]; exact h2
theorem w_t1 : ((dW 0).take 24).all cP = true := by decide +kernel
theorem w_t2 : ((dW 1).take 24).all cP = true := by decide +kernel
theorem w_t3 : ((dW 2).take 24).all cP = true := by decide +kernel
theorem w_t4 : ((dW 3).take 24).all cP = true := by decide +kernel
theorem w_t5 : ((dW 4).take 24).all cP = true := by decide +kernel
theorem w_t6 : ((dW 5).take 24).all cP = true := by decide +kernel
theorem w_t7 : ((dW 6).take 24).all cP = true := by decide +kernel
theorem w_t8 : ((dW 7).take 24).all cP = true := by decide +kernel
theorem w_t9 : ((dW 8).take 24).all cP = true := by decide +kernel
theorem w_t10 : ((dW 9).take 24).all cP = true := by decide +kernel
theorem w_t11 : ((dW 10).take 24).all cP = true := by decide +kernel
theorem w_t12 : ((dW 11).take 24).all cP = true := by decide +kernel
theorem w_t13 : ((dW 12).take 24).all cP = true := by decide +kernel
theorem w_t14 : ((dW 13).take 24).all cP = true := by decide +kernel
theorem w_t15 : ((dW 14).take 24).all cP = true := by decide +kernel
theorem w_t16 : ((dW 15).take 24).all cP = true := by decide +kernel
theorem w_t17 : ((dW 16).take 24).all cP = true := by decide +kernel
theorem w_t18 : ((dW 17).take 24).all cP = true := by decide +kernel
theorem w_t19 : ((dW 18).take 24).all cP = true := by decide +kernel
theorem w_t20 : ((dW 19).take 24).all cP = true := by decide +kernel
theorem w_t21 : ((dW 20).take 24).all cP = true := by decide +kernel
theorem w_t22 : ((dW 21).take 24).all cP = true := by decide +kernel
theorem w_t23 : ((dW 22).take 24).all cP = true := by decide +kernel
theorem w_t24 : ((dW 23).take 24).all cP = true := by decide +kernel
theorem w_t25 : ((dW 24).take 24).all cP = true := by decide +kernel
theorem w_t26 : ((dW 25).take 24).all cP = true := by decide +kernel
theorem w_t27 : (dW 26).all cP = true := by decide +kernel
theorem w_tables : (allAtoms (Jvm.Cond.code x code maxLocals ret :: tables_1)).before args0 about1 = true := by
  rw [allAtoms_all]
  show words1.all (fun c => c.before args0 about1) = true
  exact all_split (cT w_t1 (cT w_t2 (cT w_t3 (cT w_t4 (cT w_t5 (cT w_t6 (cT w_t7 (cT w_t8 (cT w_t9 (cT w_t10 (cT w_t11 (cT w_t12 (cT w_t13 (cT w_t14 (cT w_t15 (cT w_t16 (cT w_t17 (cT w_t18 (cT w_t19 (cT w_t20 (cT w_t21 (cT w_t22 (cT w_t23 (cT w_t24 (cT w_t25 (cT w_t26 w_t27)))))))))))))))))))))))))) w_codes
theorem w_rest : rest_1_c.before args0 about1 = true := by decide +kernel
theorem w_case : (Jvm.Cond.and given_1 narrow_1).before args0 about1 = true := by decide +kernel
theorem w_applies : (headSpec (Jvm.Cond.code x code maxLocals ret :: tables_1) room_1).applies x e0.platform about1 = true :=
  (Spec.applies_iff w_frames).mpr ⟨w_running, w_runnable, w_alone, w_named, w_hears, w_ripe, w_room, w_tables⟩
theorem atStart : AtStart classFile x code maxLocals ret World_1 tables_1 room_1 Calls_1 rest_1 Pre_1 launch0 p0 e0 about1 theMethod args0 below0 :=
  ⟨lists_1, trivial, launch0.admits_env _ _ _, launch0.least_env, fairChoices_fair.cas, fairChoices_fair.clock, w_frames, w_args, w_heap, w_applies, ⟨⟨56, k56, 6, by decide +kernel, rfl, rfl, _, rfl, rfl⟩, ⟨⟨11, k11, 7, by decide +kernel, rfl, rfl, _, rfl, rfl⟩, ⟨⟨46, k46, 8, by decide +kernel, rfl, rfl, _, rfl, rfl⟩, ⟨⟨47, k47, 9, by decide +kernel, rfl, rfl, _, rfl, rfl⟩, trivial⟩⟩⟩⟩, w_rest, w_case⟩
end start1
theorem witness_1 : WitnessClaimed_1 := ⟨start1.p0, start1.e0, start1.about1, start1.theMethod, start1.args0, start1.below0, start1.atStart⟩
end Jvm.Pilot.@@N@@
