import JvmDerived
import JvmDerived.Pilot.@@N@@Statement
import JvmDerived.Pilot.@@N@@Code
set_option linter.unusedVariables false
set_option linter.unusedSimpArgs false
namespace Jvm.Pilot.@@N@@
open Jvm Jvm.ClassFile Sem Op Lib Jvm.Free Jvm.Stand Jvm.LawKit Jvm.RoadKit Bundle Jvm.Pilot.@@N@@.Jvm.D
abbrev own_Go (tb : Tables) (e : Env) (below : List Frame) (P : State → Outcome → Prop) (st : State) : Prop := ∃ U o, Steps tb e below st U ∧ P U o
theorem own_go {tb : Tables} {e : Env} {below : List Frame} {P : State → Outcome → Prop} {st st' : State} (h : ∀ t, Steps tb e below st' t → Steps tb e below st t) (k : own_Go tb e below P st') : own_Go tb e below P st := by
  obtain ⟨U, o, h1, h2⟩ := k; exact ⟨U, o, h _ h1, h2⟩
abbrev oT (T : State) (m : MethodId) (pc : Nat) (l : Array Slot) (s : List Value) : State := T.setTop (mkF m pc l s)
theorem ow {tb : Tables} {e : Env} {below : List Frame} {P : State → Outcome → Prop} {st : State} (st' : State) (h : ∀ t, Steps tb e below st' t → Steps tb e below st t) (k : own_Go tb e below P st') : own_Go tb e below P st := own_go h k
theorem own_fin {tb : Tables} {e : Env} {below : List Frame} {st st' : State} {R : State → Outcome → Prop} (h : ∀ t, Steps tb e below st' t → Steps tb e below st t) (k : ∀ P : State → Outcome → Prop, (∀ U o, U.status = .running → Ended U below o → R U o → P U o) → own_Go tb e below P st') : ∃ s₂ o, Steps tb e below st s₂ ∧ s₂.status = .running ∧ Ended s₂ below o ∧ R s₂ o :=
  own_go h (k _ (fun _ _ h1 h2 h3 => ⟨h1, h2, h3⟩))
theorem own_hw {a0 : Array Value} {Z : State} {d : Jvm.Cond} (hw : ∀ d ∈ tables_1, d.before a0 Z = true) (i : Nat) (h : tables_1[i]? = some d := by rfl) : d.before a0 Z = true := hw _ (List.mem_of_getElem? h)
theorem own_ne {a b : Nat} (h : a < b ∨ b < a) : a ≠ b := by omega
def own_Old (a n s : Nat) : Prop := ∀ x : Nat, n ≤ x → x < s → a < x ∨ x < a
theorem own_Old.mono {a n s s' : Nat} (h : own_Old a n s) (hs : s' ≤ s) : own_Old a n s' := fun x h1 h2 => h x h1 (Nat.lt_of_lt_of_le h2 hs)
theorem own_o1 {a b n s : Nat} (h : own_Old a n s) (h1 : n ≤ b) (h2 : b < s) : a < b ∨ b < a := h b h1 h2
theorem own_o2 {a b n s : Nat} (h : own_Old b n s) (h1 : n ≤ a) (h2 : a < s) : a < b ∨ b < a := (h a h1 h2).symm
def own_D (a b : Nat) : Prop := a < b ∨ b < a
theorem own_Di {a b : Nat} (h : a < b ∨ b < a) : own_D a b := h
theorem own_D.symm {a b : Nat} (h : own_D a b) : own_D b a := Or.symm h
theorem own_D1 {a b n s : Nat} (h : own_Old a n s) (h1 : n ≤ b) (h2 : b < s) : own_D a b := h b h1 h2
theorem own_D2 {a b n s : Nat} (h : own_Old b n s) (h1 : n ≤ a) (h2 : a < s) : own_D a b := (h a h1 h2).symm
theorem own_nr {a b : Nat} (h : own_D a b := by first | assumption | exact own_D.symm (by assumption) | exact own_Di (by omega) | exact own_D1 (by assumption) (by omega) (by omega) | exact own_D2 (by assumption) (by omega) (by omega)) : own_D a b := h
theorem own_nq {a b : Nat} (h : own_D a b := by first | assumption | exact own_D.symm (by assumption) | exact own_Di (by omega) | exact own_D1 (by assumption) (by omega) (by omega) | exact own_D2 (by assumption) (by omega) (by omega)) : a ≠ b := own_ne h
theorem own_cat {v : Value} (h : v.isRef = true) : v.category = 1 := by rcases ref_cases h with rfl | ⟨a, rfl⟩ <;> rfl
theorem own_nar_ref {t : FieldType} {v : Value} (h : v.isRef = true) : narrow t v = v := by rcases ref_cases h with rfl | ⟨a, rfl⟩ <;> cases t <;> rfl
theorem own_fit_ref {t : FieldType} {v : Value} (h : v.isRef = true) (ht : t.isReference = true := by rfl) : fits t v = true := by rcases ref_cases h with rfl | ⟨a, rfl⟩ <;> cases t <;> first | rfl | (cases ht)
theorem own_widen {p : Program} {l : Launch} {e : Env} {R : Room} {s : State} {m : MethodId} {args : Array Value} {below : List Frame} {meth : Method} {c : Code} {T : State} {locs : List Loc} {cells slots cells' slots' : Nat} (X : Stand p l e R s m args below meth c T locs cells slots) (h1 : cells ≤ cells') (h2 : slots ≤ slots') : Stand p l e R s m args below meth c T locs cells' slots' :=
  { X with same := X.same.mono h1 h2 }
theorem own_sel_priv {s : State} {args : Array Value} {y : MethodName} {n : Nat} (wi : (Jvm.Cond.instantiable y.cls n).before args s = true) (hp : s.PrivateAt y) (hinst : (Jvm.Cond.instanceMethod y).before args s = true) (hy : y.cls ≠ "java/lang/invoke/MethodHandle" ∧ y.cls ≠ "java/lang/invoke/VarHandle") : (Jvm.Cond.selects y.cls y y).before args s = true := by
  obtain ⟨c, k, h1, h2, -, h4, -⟩ := Cond.instantiable_spec wi
  exact selects_self_of_private h1 h2 (Bool.or_eq_false_iff.mp h4).1 hp hinst hy
theorem own_NS_root {Z : State} {a0 : Array Value} {O K : String} {n : Nat} (w : (Cond.noSuperclass O).before a0 Z = true) (wk : (Cond.instantiable K n).before a0 Z = true) (hn : O ≠ K) : NS Z O K := by
  obtain ⟨c, k, h1, h2, h3, -, -⟩ := Cond.noSuperclass_spec w
  obtain ⟨t, -, g1, -⟩ := Cond.instantiable_spec wk
  have ne := ids_ne h1 g1 hn
  refine ⟨c, t, h1, g1, fun fuel => ?_⟩
  cases fuel with
  | zero => rfl
  | succ f => simp [Vm.isSubclassAux, ne, h2, h3]
theorem own_NS_no {Z : State} {a0 : Array Value} {C S K : String} {n : Nat} (w : (Cond.superclass C S).before a0 Z = true) (wk : (Cond.instantiable K n).before a0 Z = true) (m : NS Z C K) (hn : C ≠ K) : ∃ c t, Z.vm.findClass C = some c ∧ Z.vm.findClass K = some t ∧ Z.vm.assignable c t = false := by
  obtain ⟨c, t, h0, g0, n3⟩ := m
  obtain ⟨p, k, kp, h1, h2, h3, h4, h5, -, h7⟩ := Cond.superclass_spec h0 w
  obtain ⟨t', k', q1, g2, g5, g6, -, -⟩ := Cond.instantiable_spec wk
  cases g0.symm.trans q1
  have g7 : k'.isInterface = false := (Bool.or_eq_false_iff.mp g6).1
  have ne := ids_ne h0 g0 hn
  refine ⟨c, t, h0, g0, ?_⟩
  show Z.vm.assignableAux (255 + 1) c t = false
  simp [Vm.assignableAux, ne, h2, g2, h5, g5, g7, Vm.isSubclass, n3]
theorem own_getR {p : Program} {l : Launch} {e : Env} {R : Room} {s Z : State} {m : MethodId} {args a0 : Array Value} {below : List Frame} {meth : Method} {c : Code} {T : State} {locs : List Loc} {cells slots : Nat} {h : Heap} (X : Stand p l e R s m args below meth c T locs cells slots) (hx : p.tables.exec = Jvm.exec) (hZ : Z.Warmed39 s.vm) {own O n d : String} {index : Nat} (hown : s.vm.findClass own = some m.cls) (w : (Cond.fieldRef own index O n d).before a0 Z = true)
    (eT : T.heap = h) {a : Addr} {v : Value} (F : Fld Z h a O n d v) {g : JFrame} (hg : g.method = m) {rest : List Value} (hs : g.stack = .ref a :: rest) (hd : decode c.code g.pc = .ok (.getfield index, 3)) : ∃ T', Stand p l e R s m args below meth c T' locs cells slots ∧ T'.heap = h ∧ ∀ target, Steps p.tables e below (T'.setTop { g with pc := g.pc + 3, stack := v :: rest }) target → Steps p.tables e below (T.setTop g) target := by
  obtain ⟨cell, cf, k, i, f, h1, h2, h3, h4, -, -, h7⟩ := F
  have hT : Z.Warmed39 T.vm := wtrans hZ X.warmed
  have w1 := Cond.fieldRef_warmed39 hT w
  have hc : (Z.setVm T.vm).vm.findClass own = some m.cls := by show T.vm.findClass own = _; rw [X.warmed.alike.findClass]; exact hown
  obtain ⟨c', k', i', f', q1, q2⟩ := Cond.fieldRef_spec hc w1
  obtain ⟨k2, hi, -⟩ := State.fieldFound?_setVm (s := Z) hT.alike h2
  have z := hi.symm.trans q1
  simp only [Option.some.injEq, Prod.mk.injEq] at z
  obtain ⟨-, -, -, rfl⟩ := z
  exact ⟨T, X, eT, fun _ k => (X.getfieldR hx hg q2 h3 hs (by rw [eT]; exact h1) h4 h7 hd (Steps.refl _)).trans k⟩
theorem own_mvMN {Z s : State} {a0 args : Array Value} {own host : String} {x : MethodName} {index : Nat} (hZ : Z.Warmed39 s.vm) (w : (Cond.methodLinkNest own index x host).before a0 Z = true) : (Cond.methodLinkNest own index x host).before args s = true := (Cond.methodLinkNest_wide hZ w :)
theorem own_nf_sel {s : State} {args : Array Value} {C : String} {x y z : MethodName} (h : (Cond.selects C x z).before args s = true) (hc : z.cls = y.cls) : NotFace s y := fun r0 h0 => by
  obtain ⟨c2, r2, m2, q1, q2, q3, q4, kP, hkP, hkPi⟩ := Cond.selects_spec h
  have e1 := findClass_of_methodNamed q3
  have e2 := findClass_of_methodNamed h0
  rw [hc] at e1
  have e3 : m2.cls = r0.cls := Option.some.inj (e1.symm.trans e2)
  exact ⟨kP, by rw [← e3]; exact hkP, hkPi⟩
theorem own_sta_keep {Z : State} {h h' : Heap} {ws : List Addr} {C n d : String} {v : Value} (F : Sta Z h C n d v) (K : Keep h h' ws) (q : ∀ x ∈ ws, ∀ c : Cell, h[x]? = some c → c.vm.isStatics = false) : Sta Z h' C n d v := by
  obtain ⟨cf, i, k, f, st, cell, h1, h2, h3, h4, h5, h6, h7⟩ := F
  exact ⟨cf, i, k, f, st, cell, h1, h2, h3, h4, K.2.1 st cell h5 (fun z => by rw [q st z cell h5] at h6; cases h6), h6, h7⟩
theorem own_pl_exa {Z : State} {h : Heap} {a : Addr} {C : String} (F : Exa Z h a C) : ∀ c : Cell, h[a]? = some c → c.vm.isStatics = false := fun c hc => by
  obtain ⟨c1, k, h1, -, -, h4, -⟩ := F; cases h1.symm.trans hc; exact h4
theorem own_pl_fld {Z : State} {h : Heap} {a : Addr} {C n d : String} {v : Value} (F : Fld Z h a C n d v) : ∀ c : Cell, h[a]? = some c → c.vm.isStatics = false := old_plain F
theorem own_pl_arv {Z : State} {h : Heap} {a : Addr} {k : ClassId} {ty : FieldType} {n : Int32} {vs : List Value} {d : Value} (F : Arv Z h a k ty n vs d) : ∀ c : Cell, h[a]? = some c → c.vm.isStatics = false := fun c hc => by
  obtain ⟨c1, A, -⟩ := F; cases A.1.symm.trans hc; exact A.plain
def own_Body (p : Program) (l : Launch) (y : MethodName) (rm : Room) (code : ByteArray) (ret : Option FieldType) (e : Env) (s : State) (m : MethodId) (args : Array Value) (below : List Frame) (meth : Method) (c : Code) (s₁ : State) : Prop :=
  Stand p l e rm s m args below meth c s₁ [] 0 0 ∧ p.tables.exec = Jvm.exec ∧ s.methodNamed? y = some m ∧ s.vm.method? m = some meth ∧ meth.sig.returnType = ret ∧ meth.locks = false ∧ c.code = code ∧ s₁.heap = s.heap
theorem own_Body.stand {p : Program} {l : Launch} {y : MethodName} {rm : Room} {code : ByteArray} {ret : Option FieldType} {e : Env} {s : State} {m : MethodId} {args : Array Value} {below : List Frame} {meth : Method} {c : Code} {s₁ : State} (B : own_Body p l y rm code ret e s m args below meth c s₁) : Stand p l e rm s m args below meth c s₁ [] 0 0 := B.1
theorem own_Body.exec {p : Program} {l : Launch} {y : MethodName} {rm : Room} {code : ByteArray} {ret : Option FieldType} {e : Env} {s : State} {m : MethodId} {args : Array Value} {below : List Frame} {meth : Method} {c : Code} {s₁ : State} (B : own_Body p l y rm code ret e s m args below meth c s₁) : p.tables.exec = Jvm.exec := B.2.1
theorem own_Body.named {p : Program} {l : Launch} {y : MethodName} {rm : Room} {code : ByteArray} {ret : Option FieldType} {e : Env} {s : State} {m : MethodId} {args : Array Value} {below : List Frame} {meth : Method} {c : Code} {s₁ : State} (B : own_Body p l y rm code ret e s m args below meth c s₁) : s.methodNamed? y = some m := B.2.2.1
theorem own_Body.method {p : Program} {l : Launch} {y : MethodName} {rm : Room} {code : ByteArray} {ret : Option FieldType} {e : Env} {s : State} {m : MethodId} {args : Array Value} {below : List Frame} {meth : Method} {c : Code} {s₁ : State} (B : own_Body p l y rm code ret e s m args below meth c s₁) : s.vm.method? m = some meth := B.2.2.2.1
theorem own_Body.returns {p : Program} {l : Launch} {y : MethodName} {rm : Room} {code : ByteArray} {ret : Option FieldType} {e : Env} {s : State} {m : MethodId} {args : Array Value} {below : List Frame} {meth : Method} {c : Code} {s₁ : State} (B : own_Body p l y rm code ret e s m args below meth c s₁) : meth.sig.returnType = ret := B.2.2.2.2.1
theorem own_Body.notSynchronized {p : Program} {l : Launch} {y : MethodName} {rm : Room} {code : ByteArray} {ret : Option FieldType} {e : Env} {s : State} {m : MethodId} {args : Array Value} {below : List Frame} {meth : Method} {c : Code} {s₁ : State} (B : own_Body p l y rm code ret e s m args below meth c s₁) : meth.locks = false := B.2.2.2.2.2.1
theorem own_Body.bytes {p : Program} {l : Launch} {y : MethodName} {rm : Room} {code : ByteArray} {ret : Option FieldType} {e : Env} {s : State} {m : MethodId} {args : Array Value} {below : List Frame} {meth : Method} {c : Code} {s₁ : State} (B : own_Body p l y rm code ret e s m args below meth c s₁) : c.code = code := B.2.2.2.2.2.2.1
theorem own_Body.heap {p : Program} {l : Launch} {y : MethodName} {rm : Room} {code : ByteArray} {ret : Option FieldType} {e : Env} {s : State} {m : MethodId} {args : Array Value} {below : List Frame} {meth : Method} {c : Code} {s₁ : State} (B : own_Body p l y rm code ret e s m args below meth c s₁) : s₁.heap = s.heap := B.2.2.2.2.2.2.2
def own_MetN (l : Launch) (y : MethodName) (rm : Room) (code : ByteArray) (maxL : Nat) (ret : Option FieldType) (P : Array Value → State → Prop) (Q : Array Value → State → Outcome → State → Prop) : Prop :=
  ∀ (p : Program) (e : Env) (s : State) (m : MethodId) (args : Array Value) (below : List Frame) (meth : Method) (c : Code) (s₁ : State), own_Body p l y rm code ret e s m args below meth c s₁ → c.maxLocals = maxL → P args s →
    ∃ s₂ o, Steps p.tables e below (s₁.setTop (entryFrame m args maxL)) s₂ ∧ s₂.status = .running ∧ Ended s₂ below o ∧ Q args s o s₂
theorem own_backN {l : Launch} {R : Room} {p : Program} {e : Env} {below : List Frame} {s : State} {sargs a0 : Array Value} {Z : State} {h : Heap} {y : MethodName} {bytes : ByteArray} {maxL : Nat} {ret : Option FieldType} {rm : Room} {len W : Nat} {as' : Array Value} {Q : Option Value → Heap → List Loc → Prop}
    (hM : own_MetN l y rm bytes maxL ret (fun a U => a = as' ∧ Z.Warmed39 U.vm ∧ U.heap = h) (fun _ U o U' => ∃ v L, o = .returned v ∧ Q v U'.heap L ∧ FrameEnd U o U' L rm.cells rm.slots)) (hy : plainFor y = true)
    (hZ : Z.Warmed39 s.vm) (wc : (Jvm.Cond.code y bytes maxL ret).before a0 Z = true) (hf : rm.frames + 1 ≤ R.frames) (hl : W + (maxL + 11) + rm.locals ≤ R.locals) :
    Back l R p e below s sargs y len W (fun A a => a = as' ∧ A.U.heap = h ∧ A.cells + rm.cells ≤ R.cells ∧ A.slots + rm.slots ≤ R.slots)
      (fun A _ v B => ∃ L, Q v B.U.heap L ∧ B.locs = A.locs ++ L ∧ B.cells = A.cells + rm.cells ∧ B.slots = A.slots + rm.slots) := by
  intro m meth c A g ig mk a X hg hsize hdg hW hn hp
  obtain ⟨U, Ls, c0, s0⟩ := A
  obtain ⟨ea, hh, hc, hs⟩ := hp
  dsimp only [Pt.U, Pt.locs, Pt.cells, Pt.slots] at X hn hh hc hs ⊢
  subst hg
  have hU : Z.Warmed39 U.vm := wtrans hZ X.warmed
  obtain ⟨mY, cY, y1, y2, y3, y4, y5, y6, -⟩ := Cond.code_spec (args := a) hn (mv hU wc)
  obtain ⟨g0, hg0⟩ := Option.isSome_iff_exists.mp X.here.top
  obtain ⟨r, hr⟩ := State.topJava?_eq_some.mp hg0
  obtain ⟨mid, hmid⟩ := X.here.above
  have hcur : U.cur < U.threads.size := State.cur_lt_of_frames hr
  have tailr : U.frames.tail = r := by rw [hr]; rfl
  -- the invocation's own state and the state at the callee's first instruction
  obtain ⟨V, hV⟩ : ∃ V, V = U.setFrames (.invoking mk a :: .java g :: r) := ⟨_, rfl⟩
  have hVc : U.calling g mk a = V := by rw [State.calling_eq X.here.top, tailr, hV]
  have hVf : V.frames = .invoking mk a :: .java g :: r := by rw [hV]; exact State.frames_setFrames _ hcur
  have hroom : V.hasRoom e.platform rm = true := by
    rw [← hVc]; exact X.room_calling (g := g) (R' := rm) hsize y1 y2 hf (by rw [y4]; omega) hc hs
  have hfull := X.notFull (g := g) hsize (vars := cY.maxLocals) (by omega) (by rw [y4]; omega)
  have hin : (U.setTop g).pushFrame (.java (entryFrame mk a cY.maxLocals)) = V.setFrames (.java (entryFrame mk a cY.maxLocals) :: .java g :: r) := by
    rw [State.pushFrame, State.frames_setTop' g X.here.top, tailr, State.setTop_of_frames _ hr, State.setFrames_setFrames, hV, State.setFrames_setFrames]
  have hA0 := X.here.enter (g := g) a y1 y2 (State.plainMethod.of_named hy hn y1)
  rw [hin] at hA0
  have hVcur : V.cur < V.threads.size := State.cur_lt_of_frames hVf
  have hF1 : (V.setFrames (.java (entryFrame mk a cY.maxLocals) :: .java g :: r)).frames = .java (entryFrame mk a cY.maxLocals) :: .java g :: r := State.frames_setFrames _ hVcur
  have hA : At (V.setFrames (.java (entryFrame mk a cY.maxLocals) :: .java g :: r)) mk cY (.java g :: r) :=
    ⟨hA0.top, ⟨[], by rw [hF1]; rfl⟩, hA0.running, hA0.runnable, hA0.alone, hA0.code, hA0.plain⟩
  have hhear : V.hears mk (.java g :: r) = true := by
    have hcd : V.code? g.method = some c := by
      have h1 := X.here.code
      rw [State.code?_eq] at h1 ⊢
      rw [hV]; exact h1
    simp [State.hears, hcd, hdg, Except.toOption]
  obtain ⟨t, ht, -⟩ := State.frames_cons hVf
  have hsame := (State.sameButNew.refl V ht).setFrames (.java (entryFrame mk a cY.maxLocals) :: .java g :: r) hVcur
  have Y : Stand p l e rm V mk a (.java g :: r) mY cY (V.setFrames (.java (entryFrame mk a cY.maxLocals) :: .java g :: r)) [] 0 0 :=
    ⟨X.admits, X.cas, X.clock, hVf, hroom, hhear, by rw [hV]; exact y1, y2, hA, by rw [hF1]; rfl, State.WarmedH.refl V, State.stackLimits_setFrames _ _ _, State.stackBytes_setFrames _ _, hsame⟩
  obtain ⟨s₂, o, hst, -, hend, v, L, rfl, hq, hfe⟩ := hM p e V mk a _ mY cY _ ⟨Y, by cases p <;> rfl, by rw [hV]; exact hn, by rw [hV]; exact y1, y5, y6, y3, rfl⟩ y4 ⟨ea, by rw [hV]; exact hU, by rw [hV]; exact hh⟩
  -- the caller again
  obtain ⟨-, w2, z1, z2⟩ := id hfe
  have w3 : U.WarmedH s₂.vm := by rw [hV] at w2; exact w2
  obtain ⟨c2, i2, len2, d1, d2, d3⟩ := hend
  have e2 : c2 = c := by
    have h1 : s₂.code? g.method = U.code? g.method := by rw [State.code?_eq, State.code?_eq, w3.alike.method?]
    exact Option.some.inj (d1.symm.trans (h1.trans X.here.code))
  subst e2
  rw [hdg] at d2
  cases d2
  have hs₂ : s₂ = (({ U with heap := s₂.heap, slotsUsed := s₂.slotsUsed } : State).setVm s₂.vm).setTop { g with pc := g.pc + len, stack := v.toList ++ g.stack } := by
    rw [State.setTop_of_frames _ (show (({ U with heap := s₂.heap, slotsUsed := s₂.slotsUsed } : State).setVm s₂.vm).frames = .java g0 :: r from hr), ← d3]
    have k1 : s₂ = ({ s₂ with vm := V.vm } : State).setVm s₂.vm := rfl
    rw [z1] at k1
    refine k1.trans ?_
    rw [hV, State.setFrames_setFrames]
    rfl
  refine ⟨v, ⟨({ U with heap := s₂.heap, slotsUsed := s₂.slotsUsed } : State).setVm s₂.vm, Ls ++ L, c0 + rm.cells, s0 + rm.slots⟩,
    X.moved ((X.here.setHeapUsed s₂.heap s₂.slotsUsed).setVm w3.alike) X.tail rfl rfl w3 ⟨?_, ?_⟩, ⟨L, hq, rfl, rfl, rfl⟩, ?_⟩
  · obtain ⟨u, hu, -⟩ := State.frames_cons hr
    show ({ U with heap := s₂.heap, slotsUsed := s₂.slotsUsed } : State) = { U.setFrames U.frames with heap := s₂.heap, slotsUsed := s₂.slotsUsed }
    rw [State.setFrames_self hu]
  · rw [hV] at z2; exact z2
  · rw [doInvoke_enter X.here.top [] y1 y2 y6 hfull, hin, y4]
    rw [y4] at hst
    obtain ⟨n, k1, k2⟩ := hst
    refine ⟨n, k1.trans hs₂, fun k hk => ?_⟩
    have k3 := k2 k hk
    have k4 : Frame.java g :: r = (Frame.java g :: mid) ++ below := by rw [List.cons_append, ← hmid, tailr]
    exact Within.weaken (mid := .java g :: mid) (k4 ▸ k3)
theorem own_fld {args : Array Value} {s : State} {t : Term} {C n d : String} {a : Addr} {k : Int32} (ev : t.eval args s none [] s = some (.ref a)) (h : (Jvm.Cond.eq (.field t C n d) (.int k)).value args s none s [] = some true) : Fld s s.heap a C n d (.int k) := by
  obtain ⟨x, y, e1, e2, -, k2⟩ := cmp_v (Or.inl h)
  obtain rfl : Value.int k = y := Option.some.inj e2
  obtain ⟨z, rfl⟩ := k2
  have q : z = k := by
    simp only [Cond.value] at h
    rw [e1, e2] at h
    simpa using h
  subst q
  rw [fld_at ev] at e1
  exact Fld.start e1
theorem own_len {args : Array Value} {s : State} {t : Term} {a : Addr} {cl : Cell} {n : Int32} (ev : t.eval args s none [] s = some (.ref a)) (hc : s.heap[a]? = some cl) (h : (Jvm.Cond.eq (.length t) (.int n)).value args s none s [] = some true) : cl.slots.size < 2 ^ 31 ∧ cl.slots.size.toInt32 = n := by
  obtain ⟨x, y, e1, e2, -, -⟩ := cmp_v (Or.inl h)
  obtain rfl : Value.int n = y := Option.some.inj e2
  obtain ⟨b, cell, g1, g2, rfl⟩ := Term.length_spec e1
  cases ev.symm.trans g1
  have g3 : cell.slots.size < 2 ^ 31 := by
    apply Decidable.byContradiction
    intro q
    simp [Term.eval, ev, g2, q] at e1
  have g4 : cell = cl := by
    simp only [State.arrayAt?, Option.bind_eq_bind, Option.bind_eq_some_iff] at g2
    obtain ⟨c2, q1, k2, q2, q3⟩ := g2
    split at q3
    · cases q3
    · split at q3
      · cases q3; exact Option.some.inj (q1.symm.trans hc)
      · cases q3
  rw [← g4]
  refine ⟨g3, ?_⟩
  simp only [Cond.value] at h
  rw [e1, e2] at h
  simpa using h
theorem own_elem {args : Array Value} {s : State} {t u : Term} {a b : Addr} {cl : Cell} {k : Int32} (ev : t.eval args s none [] s = some (.ref a)) (hc : s.heap[a]? = some cl) (eu : u.eval args s none [] s = some (.ref b)) (h : (Jvm.Cond.eq (.elem t (.int k)) u).value args s none s [] = some true) : cl.slots[k.toNatClampNeg]? = some (.ref b) := by
  obtain ⟨x, y, e1, e2, -, -⟩ := cmp_v (Or.inl h)
  cases eu.symm.trans e2
  have q := (elem_in e1 ev rfl hc).2
  have : x = .ref b := by
    simp only [Cond.value] at h
    rw [e1, e2] at h
    cases x <;> simp at h ⊢
    exact h
  rw [q, this]
theorem own_idxL (p : Int64) (h1 : ¬ p < (-128 : Int64)) (h2 : ¬ (127 : Int64) < p) : ¬ (p.toInt32 + (128 : Int32)) < 0 ∧ (p.toInt32 + (128 : Int32)).toNatClampNeg < 256 := by
  rw [Int64.lt_iff_toInt_lt] at h1 h2
  have e1 : (-128 : Int64).toInt = -128 := rfl
  have e2 : (127 : Int64).toInt = 127 := rfl
  have e3 : (128 : Int32).toInt = 128 := rfl
  have e0 : (0 : Int32).toInt = 0 := rfl
  have e4 : p.toInt32.toInt = p.toInt := by
    rw [Int64.toInt_toInt32]; exact Int.bmod_eq_of_le (by omega) (by omega)
  have h := c_iadd p.toInt32 128
  have hr := rng32 (p.toInt32 + 128)
  rw [e3, e4] at h
  rw [Int32.lt_iff_toInt_lt]
  simp only [Int32.toNatClampNeg]
  omega
def own_CacheV (Z : State) (h : Heap) (a : Addr) (n0 : Nat) : Prop := ∃ cl : Cell, Arr Z h a cl (.object "java/lang/Long") ∧ cl.slots.size = 256 ∧ @LT.lt Nat _ a n0 ∧ ∀ j : Nat, j < 256 → ∃ r : Addr, cl.slots[j]? = some (.ref r) ∧ @LT.lt Nat _ r n0 ∧ Exa Z h r "java/lang/Long" ∧ Fld Z h r "java/lang/Long" "value" "J" (.long (Nat.toInt32 j - (128 : Int32)).toInt64)
theorem own_CacheV_ext {Z : State} {h h' : Heap} {a : Addr} {n0 : Nat} (F : own_CacheV Z h a n0) (E : Ext h h') : own_CacheV Z h' a n0 := by
  obtain ⟨cl, A, S, L, H⟩ := F
  exact ⟨cl, A.ext E, S, L, fun j hj => by obtain ⟨r, q1, q2, q3, q4⟩ := H j hj; exact ⟨r, q1, q2, q3.ext E, q4.ext E⟩⟩
theorem own_CacheV_keep {Z : State} {h h' : Heap} {a : Addr} {n0 : Nat} {ws : List Addr} (F : own_CacheV Z h a n0) (K : Keep h h' ws) (q : ∀ x ∈ ws, @LE.le Nat _ n0 x) : own_CacheV Z h' a n0 := by
  obtain ⟨cl, A, S, L, H⟩ := F
  have nin : ∀ r : Addr, @LT.lt Nat _ r n0 → r ∉ ws := fun r hr hm => absurd (q r hm) (Nat.not_le.mpr hr)
  exact ⟨cl, ⟨K.2.1 a cl A.1 (nin a L), A.2⟩, S, L, fun j hj => by obtain ⟨r, q1, q2, q3, q4⟩ := H j hj; exact ⟨r, q1, q2, q3.keep K, q4.keep K (nin r q2)⟩⟩
theorem own_CacheV_wr {Z : State} {h h' : Heap} {a b : Addr} {n0 sl : Nat} {v : Value} (F : own_CacheV Z h a n0) (W : Wr h h' b sl v) (q : @LE.le Nat _ n0 b) : own_CacheV Z h' a n0 := by
  obtain ⟨cl, A, S, L, H⟩ := F
  have ne : ∀ r : Addr, @LT.lt Nat _ r n0 → r ≠ b := fun r hr e => absurd (e ▸ hr) (Nat.not_lt.mpr q)
  exact ⟨cl, A.other W (ne a L), S, L, fun j hj => by obtain ⟨r, q1, q2, q3, q4⟩ := H j hj; exact ⟨r, q1, q2, q3.wr W, q4.other W (Or.inl (ne r q2))⟩⟩
theorem own_CacheV_lt {Z : State} {h : Heap} {a : Addr} {n0 : Nat} (F : own_CacheV Z h a n0) : @LT.lt Nat _ a h.size := by obtain ⟨cl, A, -⟩ := F; exact A.lt
theorem own_cache_ofV {args : Array Value} {s : State} {C n d : String} {a : Addr} {cl : Cell} (ev : (Term.static C n d).eval args s none [] s = some (.ref a)) (A : Arr s s.heap a cl (.object "java/lang/Long")) (hl : cl.slots.size < 2 ^ 31 ∧ cl.slots.size.toInt32 = 256)
    (h : (Jvm.Cond.all (Term.static C n d) (Jvm.Cond.and (Jvm.Cond.exactly (Term.elem (Term.static C n d) (Term.index 0)) "java/lang/Long") (Jvm.Cond.eq (Term.field (Term.elem (Term.static C n d) (Term.index 0)) "java/lang/Long" "value" "J") (Term.op1 Jvm.Unary.i2l (Term.sub (Term.index 0) (Term.int 128)))))).value args s none s [] = some true) : own_CacheV s s.heap a s.heap.size := by
  have sz : cl.slots.size = 256 := by
    have q := len_toInt hl.1
    rw [hl.2] at q
    have : (256 : Int32).toInt = 256 := rfl
    omega
  refine ⟨cl, A, sz, A.lt, fun j hj => ?_⟩
  have q := Cond.all_elim ev (A.fin (Vm.Alike.refl _)) h j (by omega)
  obtain ⟨q1, q2⟩ := and_e q
  obtain ⟨a', c', cell, k, e1, e2, e3, e4, e5, e6, e7⟩ := Cond.exactly_spec (beq_iff_eq.mpr q1 : (Jvm.Cond.exactly (Term.elem (Term.static C n d) (Term.index 0)) "java/lang/Long").holds args s none s [j] = true)
  have ei : (Term.index 0).eval args s none [j] s = some (.int (Nat.toInt32 j)) := by first | rfl | simp [Term.eval]
  have r := (elem_in e1 (show (Term.static C n d).eval args s none [j] s = some (.ref a) from ev) ei A.1).2
  have hj2 : (Nat.toInt32 j).toNatClampNeg = j := by simp only [Int32.toNatClampNeg, len_toInt (show j < 2 ^ 31 by omega)]; rfl
  rw [hj2] at r
  have E : Exa s s.heap a' "java/lang/Long" := ⟨cell, k, e3, by rw [e6]; exact e2, by rw [e6]; exact e4, e5, by rw [← e6] at e4; exact e7⟩
  refine ⟨a', r, E.lt, E, Fld.start ?_⟩
  have rhs : (Term.op1 Jvm.Unary.i2l (Term.sub (Term.index 0) (Term.int 128))).eval args s none [j] s = some (.long (Nat.toInt32 j - (128 : Int32)).toInt64) := by
    simp only [Term.eval, ei]; rfl
  simp only [Cond.value] at q2
  rw [rhs] at q2
  have lhs : (Term.field (Term.elem (Term.static C n d) (Term.index 0)) "java/lang/Long" "value" "J").eval args s none [j] s = s.fieldOf? a' "java/lang/Long" "value" "J" := by
    rw [Term.eval, e1]; rfl
  rw [lhs] at q2
  cases hv : s.fieldOf? a' "java/lang/Long" "value" "J" with
  | none => rw [hv] at q2; simp at q2
  | some w => rw [hv] at q2; cases w <;> simp at q2 ⊢; exact q2
theorem own_idxV (p : Int64) (h1 : ¬ p < (-128 : Int64)) (h2 : ¬ (127 : Int64) < p) : (Nat.toInt32 ((p.toInt32 + (128 : Int32)).toNatClampNeg) - (128 : Int32)).toInt64 = p := by
  rw [Int64.lt_iff_toInt_lt] at h1 h2
  have e1 : (-128 : Int64).toInt = -128 := rfl
  have e2 : (127 : Int64).toInt = 127 := rfl
  have e3 : (128 : Int32).toInt = 128 := rfl
  have e4 : p.toInt32.toInt = p.toInt := by
    rw [Int64.toInt_toInt32]; exact Int.bmod_eq_of_le (by omega) (by omega)
  have h := c_iadd p.toInt32 128
  have hr := rng32 (p.toInt32 + 128)
  rw [e3, e4] at h
  have e5 : (p.toInt32 + 128).toNatClampNeg = (p.toInt + 128).toNat := by simp only [Int32.toNatClampNeg]; omega
  apply Int64.toInt_inj.mp
  rw [c_i2l, e5]
  have h6 := c_isub (Nat.toInt32 (p.toInt + 128).toNat) 128
  have h7 := len_toInt (n := (p.toInt + 128).toNat) (by omega)
  have hr2 := rng32 (Nat.toInt32 (p.toInt + 128).toNat - 128)
  rw [e3] at h6
  omega
theorem own_irrL (m : Int64) : ¬ m < m := by rw [Int64.lt_iff_toInt_lt]; omega
theorem own_mx {q : Int64} (h : ¬ q < (1 : Int64)) : ¬ ((9223372036854775807 : Int64) - q) < (0 : Int64) := by
  rw [Int64.lt_iff_toInt_lt] at h ⊢
  have e1 : (1 : Int64).toInt = 1 := rfl
  have e0 : (0 : Int64).toInt = 0 := rfl
  have em : (9223372036854775807 : Int64).toInt = 9223372036854775807 := rfl
  have h1 := c_lsub 9223372036854775807 q
  have h2 := rng64 q
  have h3 := rng64 ((9223372036854775807 : Int64) - q)
  rw [em] at h1
  omega
theorem own_mul {p q : Int64} (hp : 0 ≤ p.toInt) (hq : 0 ≤ q.toInt) (h : p.toInt * q.toInt < 2 ^ 63) : (p * q).toInt = p.toInt * q.toInt := by
  have h1 := c_lmul p q
  have h3 := rng64 (p * q)
  have h4 : 0 ≤ p.toInt * q.toInt := Int.mul_nonneg hp hq
  generalize p.toInt * q.toInt = z at *
  omega
theorem own_div {p q : Int64} (hp : 0 ≤ p.toInt) (hq : 0 ≤ q.toInt) (h : p.toInt * q.toInt < 2 ^ 63) (h0 : ¬ q = (0 : Int64)) : (p * q) / q = p := by
  apply Int64.toInt_inj.mp
  have e0 : (0 : Int64).toInt = 0 := rfl
  have hq0 : q.toInt ≠ 0 := fun e => h0 (Int64.toInt_inj.mp (by rw [e, e0]))
  rw [Int64.toInt_div_of_ne_right _ _ (by intro e; rw [e] at hq; exact absurd hq (by decide)), own_mul hp hq h]
  exact Int.mul_tdiv_cancel _ hq0
def own_nn (p : Int64) : Prop := 0 ≤ p.toInt
theorem own_nn_lt {p : Int64} (h : own_nn p) : ¬ p < (0 : Int64) := by rw [Int64.lt_iff_toInt_lt]; have e0 : (0 : Int64).toInt = 0 := rfl; unfold own_nn at h; omega
theorem own_nn_min {p : Int64} (h : own_nn p) : ¬ p = (-9223372036854775808 : Int64) := fun e => by rw [e] at h; exact absurd h (by unfold own_nn; decide)
def own_pr (p q : Int64) : Prop := p.toInt * q.toInt < 2 ^ 63
theorem own_dv {p q : Int64} (hp : own_nn p) (hq : own_nn q) (h : own_pr p q) (h0 : ¬ q = (0 : Int64)) : (p * q) / q = p := own_div hp hq h h0
theorem own_add0 (q : Int64) (hq : own_nn q) : ¬ (((0 : Int64) ^^^ ((0 : Int64) + q)) &&& (q ^^^ ((0 : Int64) + q))) < (0 : Int64) := by
  rw [Int64.zero_add, Int64.xor_self, Int64.and_zero]; exact own_irrL 0
theorem own_nea {a b : Nat} (h : own_D a b) : ¬ a = b := own_ne h
theorem own_ne_fld {Z : State} {h : Heap} {a b : Addr} {C n d : String} (F : Fld Z h a C n d (.int (1 : Int32))) (G : Fld Z h b C n d (.int (0 : Int32))) : own_D a b := Nat.lt_or_gt_of_ne fun e => by
  have e' : a = b := e
  subst e'
  obtain ⟨c1, cf, k, i, f, g1, g2, -, -, -, -, g7⟩ := F
  obtain ⟨c2, cf', k', i', f', q1, q2, -, -, -, -, q7⟩ := G
  cases g1.symm.trans q1
  have z := g2.symm.trans q2
  simp only [Option.some.injEq, Prod.mk.injEq] at z
  rw [z.2.2.2, q7] at g7
  cases g7
theorem own_pl1 (x : Int32) (m : Int32) (hm : 0 ≤ m.toInt) : 1 ≤ ((x &&& m).toInt64 + (1 : Int64)).toInt ∧ ((x &&& m).toInt64 + (1 : Int64)).toInt ≤ m.toInt + 1 := by
  obtain ⟨h1, h2⟩ := c_and x m hm
  have h3 := c_i2l (x &&& m)
  have h4 := c_ladd (x &&& m).toInt64 1
  have h5 := rng64 ((x &&& m).toInt64 + 1)
  have h6 := rng32 m
  have e : (1 : Int64).toInt = 1 := rfl
  rw [e, h3] at h4
  omega
theorem own_ge1 {q : Int64} (h : 1 ≤ q.toInt) : ¬ q < (1 : Int64) := by rw [Int64.lt_iff_toInt_lt]; have e : (1 : Int64).toInt = 1 := rfl; omega
theorem own_rem {x m : Int64} (hx : 0 ≤ x.toInt) (hm : 1 ≤ m.toInt) : 0 ≤ (x % m).toInt ∧ (x % m).toInt < m.toInt := by
  rw [Int64.toInt_mod, Int.tmod_eq_emod_of_nonneg hx]
  exact ⟨Int.emod_nonneg _ (by omega), Int.emod_lt_of_pos _ (by omega)⟩
theorem own_nz {m : Int64} (hm : 1 ≤ m.toInt) : m ≠ 0 := fun e => by rw [e] at hm; exact absurd hm (by decide)
theorem own_i2ln (x : Int32) : 0 ≤ ((x &&& (2147483647 : Int32)).toInt64).toInt := by rw [c_i2l]; exact (c_and x 2147483647 (by decide)).1
theorem own_bnd {a b : Int} {A B : Int} (h1 : 0 ≤ a) (h2 : a ≤ A) (h3 : 0 ≤ b) (h4 : b ≤ B) : 0 ≤ a * b ∧ a * b ≤ A * B := ⟨Int.mul_nonneg h1 h3, Int.mul_le_mul h2 h4 h3 (by omega)⟩
theorem own_tr0 (m6 m8 : Int64) : (0 : Int64) = (m6 * m8) - ((0 : Int64) + (m8 * m6)) := by rw [Int64.zero_add, Int64.mul_comm m8 m6, Int64.sub_self]
theorem own_trn {m6 m8 m12 : Int64} (h6 : 1 ≤ m6.toInt) (k6 : m6.toInt ≤ 1048576) (h8 : 1 ≤ m8.toInt) (k8 : m8.toInt ≤ 4096) (h12 : 0 ≤ m12.toInt) (k12 : m12.toInt < m8.toInt) : ¬ (m6 * m8 - ((0 : Int64) + (m12 * m6))) < (0 : Int64) := by
  rw [Int64.zero_add, Int64.lt_iff_toInt_lt]
  have b1 := own_bnd (a := m6.toInt) (b := m8.toInt) (by omega) k6 (by omega) k8
  have b2 := own_bnd (a := m12.toInt) (b := m6.toInt) h12 (show m12.toInt ≤ 4096 by omega) (by omega) k6
  have e1 := own_mul (p := m6) (q := m8) (by omega) (by omega) (by omega)
  have e2 := own_mul (p := m12) (q := m6) h12 (by omega) (by omega)
  have e3 := c_lsub (m6 * m8) (m12 * m6)
  have e4 := rng64 (m6 * m8 - m12 * m6)
  have e0 : (0 : Int64).toInt = 0 := rfl
  have e5 : m12.toInt * m6.toInt ≤ m8.toInt * m6.toInt := Int.mul_le_mul_of_nonneg_right (by omega) (by omega)
  rw [Int.mul_comm m8.toInt] at e5
  rw [e1, e2] at e3
  generalize m6.toInt * m8.toInt = z at *
  generalize m12.toInt * m6.toInt = y at *
  omega
theorem own_le {m6 m8 : Int64} (h6 : 1 ≤ m6.toInt) (k6 : m6.toInt ≤ 1048576) (h8 : 1 ≤ m8.toInt) (k8 : m8.toInt ≤ 4096) : ¬ (m6 * m8) < m6 ∧ ¬ (m6 * m8) < (1 : Int64) ∧ own_nn (m6 * m8) ∧ (m6 * m8).toInt ≤ 4294967296 := by
  have b1 := own_bnd (a := m6.toInt) (b := m8.toInt) (by omega) k6 (by omega) k8
  have e1 := own_mul (p := m6) (q := m8) (by omega) (by omega) (by omega)
  have e5 : m6.toInt * 1 ≤ m6.toInt * m8.toInt := Int.mul_le_mul_of_nonneg_left h8 (by omega)
  have e : (1 : Int64).toInt = 1 := rfl
  rw [Int64.lt_iff_toInt_lt, Int64.lt_iff_toInt_lt]
  unfold own_nn
  rw [e1, e]
  omega
theorem own_prb {p q : Int64} {A B : Int} (h1 : 0 ≤ p.toInt) (h2 : p.toInt ≤ A) (h3 : 0 ≤ q.toInt) (h4 : q.toInt ≤ B) (h : A * B < 2 ^ 63) : own_pr p q ∧ own_nn (p * q) := by
  have b := own_bnd h1 h2 h3 h4
  have e : own_pr p q := by unfold own_pr; omega
  exact ⟨e, by unfold own_nn; rw [own_mul h1 h3 e]; exact b.1⟩
abbrev oi (x : Int32) : Slot := .val (.int x)
abbrev oj (x : Int64) : Slot := .val (.long x)
abbrev oR (x : Addr) : Slot := .val (.ref x)
abbrev oM0 : MethodName := ⟨"java/lang/Long", "longValue", "()J"⟩
abbrev oM1 : MethodName := ⟨"com/example/millwright/millwright/cut/Objective", "patternCost", "(Lcom/example/millwright/millwright/cut/Order;Lcom/example/millwright/millwright/cut/Pattern;)J"⟩
abbrev oM2 : MethodName := ⟨"java/lang/Long", "valueOf", "(J)Ljava/lang/Long;"⟩
abbrev oM3 : MethodName := ⟨"java/util/TreeMap$PrivateEntryIterator", "hasNext", "()Z"⟩
abbrev oM4 : MethodName := ⟨"com/example/millwright/millwright/cut/Objective", "leastStockValue", "()J"⟩
abbrev oM5 : MethodName := ⟨"java/util/TreeMap", "size", "()I"⟩
abbrev oM6 : MethodName := ⟨"java/util/TreeMap", "getEntry", "(Ljava/lang/Object;)Ljava/util/TreeMap$Entry;"⟩
abbrev oM7 : MethodName := ⟨"java/util/TreeMap", "getFirstEntry", "()Ljava/util/TreeMap$Entry;"⟩
abbrev oM8 : MethodName := ⟨"java/util/TreeMap$PrivateEntryIterator", "<init>", "(Ljava/util/TreeMap;Ljava/util/TreeMap$Entry;)V"⟩
abbrev oM9 : MethodName := ⟨"java/util/TreeMap$PrivateEntryIterator", "nextEntry", "()Ljava/util/TreeMap$Entry;"⟩
abbrev oM10 : MethodName := ⟨"java/util/Map", "getOrDefault", "(Ljava/lang/Object;Ljava/lang/Object;)Ljava/lang/Object;"⟩
abbrev oM11 : MethodName := ⟨"java/util/AbstractMap", "isEmpty", "()Z"⟩
abbrev oM12 : MethodName := ⟨"java/lang/Long", "<init>", "(J)V"⟩
abbrev oM13 : MethodName := ⟨"java/util/AbstractSet", "<init>", "()V"⟩
abbrev oM14 : MethodName := ⟨"java/util/TreeMap", "<init>", "(Ljava/util/Comparator;)V"⟩
abbrev oM15 : MethodName := ⟨"java/lang/Long", "compareTo", "(Ljava/lang/Long;)I"⟩
abbrev oM16 : MethodName := ⟨"java/util/Collections$ReverseComparator", "compare", "(Ljava/lang/Comparable;Ljava/lang/Comparable;)I"⟩
abbrev oM17 : MethodName := ⟨"java/util/TreeMap", "compare", "(Ljava/lang/Object;Ljava/lang/Object;)I"⟩
abbrev oM18 : MethodName := ⟨"java/util/TreeMap", "put", "(Ljava/lang/Object;Ljava/lang/Object;)Ljava/lang/Object;"⟩
abbrev oM19 : MethodName := ⟨"java/util/TreeMap", "getEntryUsingComparator", "(Ljava/lang/Object;)Ljava/util/TreeMap$Entry;"⟩
abbrev oM20 : MethodName := ⟨"com/example/millwright/millwright/cut/Order$Builder", "stock", "(JJ)Lcom/example/millwright/millwright/cut/Order$Builder;"⟩
abbrev oM21 : MethodName := ⟨"com/example/millwright/millwright/cut/Order$Builder", "stock", "(J)Lcom/example/millwright/millwright/cut/Order$Builder;"⟩
abbrev oM22 : MethodName := ⟨"com/example/millwright/millwright/cut/Order$Builder", "piece", "(JJ)Lcom/example/millwright/millwright/cut/Order$Builder;"⟩
abbrev oM23 : MethodName := ⟨"java/util/TreeMap", "navigableKeySet", "()Ljava/util/NavigableSet;"⟩
abbrev oM24 : MethodName := ⟨"java/util/TreeMap", "keySet", "()Ljava/util/Set;"⟩
abbrev oM25 : MethodName := ⟨"java/util/TreeMap", "keyIterator", "()Ljava/util/Iterator;"⟩
abbrev oM26 : MethodName := ⟨"java/util/TreeMap$KeySet", "iterator", "()Ljava/util/Iterator;"⟩
abbrev oM27 : MethodName := ⟨"java/util/TreeMap", "successor", "(Ljava/util/TreeMap$Entry;)Ljava/util/TreeMap$Entry;"⟩
abbrev oM28 : MethodName := ⟨"java/util/TreeMap$KeyIterator", "next", "()Ljava/lang/Object;"⟩
abbrev oM29 : MethodName := ⟨"java/util/TreeMap$EntryIterator", "next", "()Ljava/util/Map$Entry;"⟩
abbrev oM30 : MethodName := ⟨"java/util/TreeMap$EntryIterator", "next", "()Ljava/lang/Object;"⟩
abbrev oM31 : MethodName := ⟨"java/util/TreeMap", "entrySet", "()Ljava/util/Set;"⟩
abbrev oM32 : MethodName := ⟨"java/util/TreeMap$EntrySet", "iterator", "()Ljava/util/Iterator;"⟩
abbrev oM33 : MethodName := ⟨"java/util/TreeMap$Entry", "getKey", "()Ljava/lang/Object;"⟩
abbrev oM34 : MethodName := ⟨"java/util/TreeMap$Entry", "getValue", "()Ljava/lang/Object;"⟩
abbrev oM35 : MethodName := ⟨"java/lang/Math", "abs", "(J)J"⟩
abbrev oM36 : MethodName := ⟨"java/lang/Math", "addExact", "(JJ)J"⟩
abbrev oM37 : MethodName := ⟨"java/lang/Math", "multiplyExact", "(JJ)J"⟩
abbrev oM38 : MethodName := ⟨"com/example/millwright/millwright/cut/Order$Builder", "build", "()Lcom/example/millwright/millwright/cut/Order;"⟩
abbrev oM39 : MethodName := ⟨"java/util/Map", "size", "()I"⟩
abbrev oM40 : MethodName := ⟨"java/util/Set", "iterator", "()Ljava/util/Iterator;"⟩
abbrev oM41 : MethodName := ⟨"java/util/Iterator", "hasNext", "()Z"⟩
abbrev oM42 : MethodName := ⟨"java/util/Iterator", "next", "()Ljava/lang/Object;"⟩
abbrev oM43 : MethodName := ⟨"com/example/millwright/millwright/cut/Pattern", "<init>", "(I[J)V"⟩
abbrev oM44 : MethodName := ⟨"com/example/millwright/millwright/cut/Order", "stockLength", "(I)J"⟩
abbrev oM45 : MethodName := ⟨"com/example/millwright/millwright/cut/Order", "length", "(I)J"⟩
abbrev oM46 : MethodName := ⟨"com/example/millwright/millwright/cut/Pattern", "usedLength", "(Lcom/example/millwright/millwright/cut/Order;)J"⟩
abbrev oM47 : MethodName := ⟨"com/example/millwright/millwright/cut/Pattern", "trim", "(Lcom/example/millwright/millwright/cut/Order;)J"⟩
abbrev oM48 : MethodName := ⟨"java/lang/Number", "<init>", "()V"⟩
abbrev oM49 : MethodName := ⟨"java/util/AbstractMap", "<init>", "()V"⟩
abbrev oM50 : MethodName := ⟨"java/util/AbstractCollection", "<init>", "()V"⟩
abbrev oM51 : MethodName := ⟨"com/example/millwright/millwright/cut/Order$Builder", "<init>", "()V"⟩
abbrev oM52 : MethodName := ⟨"java/lang/Long", "compare", "(JJ)I"⟩
abbrev oM53 : MethodName := ⟨"java/lang/Long", "compareTo", "(Ljava/lang/Object;)I"⟩
abbrev oM54 : MethodName := ⟨"java/util/Collections$ReverseComparator", "compare", "(Ljava/lang/Object;Ljava/lang/Object;)I"⟩
abbrev oM55 : MethodName := ⟨"java/util/TreeMap$Entry", "<init>", "(Ljava/lang/Object;Ljava/lang/Object;Ljava/util/TreeMap$Entry;)V"⟩
abbrev oM56 : MethodName := ⟨"java/util/TreeMap", "addEntryToEmptyMap", "(Ljava/lang/Object;Ljava/lang/Object;)V"⟩
abbrev oM57 : MethodName := ⟨"java/util/TreeMap", "put", "(Ljava/lang/Object;Ljava/lang/Object;Z)Ljava/lang/Object;"⟩
abbrev oM58 : MethodName := ⟨"java/util/TreeMap", "get", "(Ljava/lang/Object;)Ljava/lang/Object;"⟩
abbrev oM59 : MethodName := ⟨"java/util/TreeMap", "containsKey", "(Ljava/lang/Object;)Z"⟩
abbrev oM60 : MethodName := ⟨"java/util/TreeMap$KeySet", "<init>", "(Ljava/util/NavigableMap;)V"⟩
abbrev oM61 : MethodName := ⟨"java/util/TreeMap$KeyIterator", "<init>", "(Ljava/util/TreeMap;Ljava/util/TreeMap$Entry;)V"⟩
abbrev oM62 : MethodName := ⟨"java/util/TreeMap$EntryIterator", "<init>", "(Ljava/util/TreeMap;Ljava/util/TreeMap$Entry;)V"⟩
abbrev oM63 : MethodName := ⟨"java/util/TreeMap$EntrySet", "<init>", "(Ljava/util/TreeMap;)V"⟩
abbrev oM64 : MethodName := ⟨"com/example/millwright/millwright/cut/Order", "<init>", "([J[J[J[J)V"⟩
abbrev oM65 : MethodName := ⟨"java/util/Arrays", "hashCode", "([J)I"⟩
abbrev oM66 : MethodName := ⟨"java/util/Map", "put", "(Ljava/lang/Object;Ljava/lang/Object;)Ljava/lang/Object;"⟩
abbrev oM67 : MethodName := ⟨"java/util/Map", "entrySet", "()Ljava/util/Set;"⟩
abbrev oM68 : MethodName := ⟨"java/util/Map$Entry", "getKey", "()Ljava/lang/Object;"⟩
abbrev oM69 : MethodName := ⟨"java/util/Map$Entry", "getValue", "()Ljava/lang/Object;"⟩
abbrev oM70 : MethodName := ⟨"java/util/Map", "isEmpty", "()Z"⟩
abbrev oM71 : MethodName := ⟨"java/util/Map", "keySet", "()Ljava/util/Set;"⟩
abbrev oS0 : String := "java/util/TreeMap"
abbrev oS1 : String := "java/util/TreeMap$Entry"
abbrev oS2 : String := "Ljava/util/TreeMap$Entry;"
abbrev oS3 : String := "java/lang/Long"
abbrev oS4 : String := "java/util/TreeMap$PrivateEntryIterator"
abbrev oS5 : String := "com/example/millwright/millwright/cut/Order$Builder"
abbrev oS6 : String := "Ljava/util/Comparator;"
abbrev oS7 : String := "com/example/millwright/millwright/cut/Pattern"
abbrev oS8 : String := "Ljava/lang/Object;"
abbrev oS9 : String := "com/example/millwright/millwright/cut/Order"
abbrev oS10 : String := "navigableKeySet"
abbrev oS11 : String := "Ljava/util/TreeMap$KeySet;"
abbrev oS12 : String := "Ljava/util/TreeMap$EntrySet;"
abbrev oS13 : String := "Ljava/util/Map;"
abbrev oS14 : String := "java/util/TreeMap$EntrySet"
abbrev oS15 : String := "java/util/TreeMap$KeySet"
abbrev oS16 : String := "java/lang/Object"
abbrev oS17 : String := "Ljava/util/TreeMap;"
abbrev oS18 : String := "lastReturned"
abbrev oS19 : String := "com/example/millwright/millwright/cut/Objective"
abbrev oS20 : String := "expectedModCount"
abbrev oS21 : String := "java/util/Collections$ReverseComparator"
abbrev oS22 : String := "java/util/TreeMap$EntryIterator"
abbrev oS23 : String := "java/util/Comparator"
abbrev oS24 : String := "java/lang/Long$LongCache"
abbrev oS25 : String := "[Ljava/lang/Long;"
abbrev oS26 : String := "java/util/TreeMap$KeyIterator"
abbrev oS27 : String := "java/util/Map"
abbrev oS28 : String := "Lcom/example/millwright/millwright/cut/Objective;"
abbrev oS29 : String := "LONGEST_FIRST"
abbrev oS30 : String := "Ljava/util/NavigableMap;"
theorem d15_0 : decode jdk_18_method_1_code 0 = .ok (.aload_n 0, 1) := by decide +kernel
theorem d15_1 : decode jdk_18_method_1_code 1 = .ok (.invokespecial 1, 3) := by decide +kernel
theorem d15_4 : decode jdk_18_method_1_code 4 = .ok (.return_, 1) := by decide +kernel
theorem pn_15 : plainName "java/lang/Number" = true := by first | (simp [plainName, overriddenIn]; done) | decide +kernel
theorem ef_rm15 (m : MethodId) (x0 : Addr) : entryFrame m #[(.ref x0)] 1 = mkF m 0 #[.val (.ref x0)] [] := by first | (simp [entryFrame, mkF, argsToLocals, Value.category]; done) | rfl
def Qrm15 (Z : State) (a1 : Addr) (h0 : Heap) (n0 : Nat) (v : Option Value) (h : Heap) (L : List Loc) : Prop := (v = none) ∧ (Fr n0 L) ∧ (h = h0)
set_option maxRecDepth 65536 in
set_option maxHeartbeats 40000000 in
theorem rm15 (l : Launch) (Z : State) (a0 : Array Value) (hw : ∀ d ∈ tables_1, d.before a0 Z = true) (ws : List Jvm.Cond) (a1 : Addr) (h0 : Heap) (n0 : Nat) (Z0 : n0 ≤ h0.size)  :
    MetFree l oM48 (head1 (Jvm.Cond.code oM48 jdk_18_method_1_code 1 none :: ws) ({ frames := 1, cells := 0, slots := 0, locals := 12 } : Room)) (fun a U => a = #[(.ref a1)] ∧ Z.Warmed39 U.vm ∧ U.heap = h0) (fun _ _ _ _ _ => True) (fun _ U o U' => ∃ v L, o = .returned v ∧ Qrm15 Z a1 h0 n0 v U'.heap L ∧ FrameEnd U o U' L ({ frames := 1, cells := 0, slots := 0, locals := 12 } : Room).cells ({ frames := 1, cells := 0, slots := 0, locals := 12 } : Room).slots) := by
  refine MetFree.of_bodySF (plainFor_of_name pn_15) hisR ?_
  intro p e s m args below meth c s₁ Bd hml0 hP0 hK
  obtain ⟨rfl, hZ, hh⟩ := hP0
  have hx := Bd.exec
  have hby := Bd.bytes
  have hml : c.maxLocals = 1 := hml0
  have hown : s.vm.findClass "java/lang/Number" = some m.cls := findClass_of_methodNamed Bd.named
  have hnm := (name_of_methodNamed Bd.named Bd.method).1
  have X0 : Stand p l e ({ frames := 1, cells := 0, slots := 0, locals := 12 } : Room) s m #[(.ref a1)] below meth c s₁ [] 0 0 := Stand.of_body Bd
  have e0 : s₁.heap = h0 := by rw [← hh, Bd.state]; rfl
  have N0 := Fr.nil n0
  refine own_fin (st' := s₁.setTop (mkF m 0 #[oR a1] [])) (fun _ k => castTop (ef_rm15 m a1) k) (fun P hP => ?_)
  refine own_go (st' := s₁.setTop (mkF m 1 #[oR a1] [(.ref a1)])) (fun _ k => XS.aloadN X0.here hx rfl (hb hby d15_0) rfl rfl k) ?_
  obtain ⟨T1, X1, e1, st1⟩ := initO X0 hx hZ hown (own_hw hw 115) (own_hw hw 13) (own_hw hw 14) e0 (g := (mkF m 1 #[oR a1] [(.ref a1)])) rfl (by rw [hml]; rfl) rfl (hb hby d15_1) (by decide) (W := 0) (by show 2 * 0 + _ ≤ _; exact Nat.le_of_eq rfl) (by decide)
  refine own_go (st' := T1.setTop (mkF m 4 #[oR a1] [])) (st1) ?_
  obtain ⟨fs, hr, hrun, hended, hW, hsame⟩ := X1.leave (v := none) (fun _ => rfl)
  refine ⟨_, _, ?_, hP _ _ hrun hended ⟨_, _, rfl, ?_, ⟨_, rfl⟩, hW, hsame.mono (by decide) (by decide)⟩⟩
  · exact X1.returnOut hx Bd.returns (hb hby d15_4) hr
  · show Qrm15 Z a1 h0 n0 _ T1.heap _
    rw [e1]
    exact ⟨rfl, N0, rfl⟩
theorem pd_0 : parseMethodDescriptor "()V" = some ⟨[], none⟩ := by decide +kernel
theorem d14_0 : decode jdk_35_method_26_code 0 = .ok (.aload_n 0, 1) := by decide +kernel
theorem d14_1 : decode jdk_35_method_26_code 1 = .ok (.invokespecial 270, 3) := by decide +kernel
theorem d14_4 : decode jdk_35_method_26_code 4 = .ok (.aload_n 0, 1) := by decide +kernel
theorem d14_5 : decode jdk_35_method_26_code 5 = .ok (.lload_n 1, 1) := by decide +kernel
theorem d14_6 : decode jdk_35_method_26_code 6 = .ok (.putfield 273, 3) := by decide +kernel
theorem d14_9 : decode jdk_35_method_26_code 9 = .ok (.return_, 1) := by decide +kernel
theorem pn_14 : plainName "java/lang/Long" = true := by first | (simp [plainName, overriddenIn]; done) | decide +kernel
theorem ef_rm14 (m : MethodId) (x0 : Addr) (x1 : Int64) : entryFrame m #[(.ref x0), (.long x1)] 3 = mkF m 0 #[.val (.ref x0), .val (.long x1), .second] [] := by first | (simp [entryFrame, mkF, argsToLocals, Value.category]; done) | rfl
def Qrm14 (Z : State) (a1 : Addr) (p2 : Int64) (u3 : Int64) (h0 : Heap) (n0 : Nat) (v : Option Value) (h : Heap) (L : List Loc) : Prop := (v = none) ∧ (Fr n0 L) ∧ (Keep h0 h [a1]) ∧ (Exa Z h a1 "java/lang/Long") ∧ (Fld Z h a1 "java/lang/Long" "value" "J" (.long p2))
set_option maxRecDepth 65536 in
set_option maxHeartbeats 40000000 in
theorem rm14 (l : Launch) (Z : State) (a0 : Array Value) (hw : ∀ d ∈ tables_1, d.before a0 Z = true) (ws : List Jvm.Cond) (a1 : Addr) (p2 : Int64) (u3 : Int64) (h0 : Heap) (n0 : Nat) (Z0 : n0 ≤ h0.size) (pr1 : Exa Z h0 a1 oS3) (pr2 : Fld Z h0 a1 oS3 "value" "J" (.long u3)) (pr3 : n0 ≤ a1) :
    MetFree l oM12 (head1 (Jvm.Cond.code oM12 jdk_35_method_26_code 3 none :: ws) ({ frames := 2, cells := 0, slots := 0, locals := 24 } : Room)) (fun a U => a = #[(.ref a1), (.long p2)] ∧ Z.Warmed39 U.vm ∧ U.heap = h0) (fun _ _ _ _ _ => True) (fun _ U o U' => ∃ v L, o = .returned v ∧ Qrm14 Z a1 p2 u3 h0 n0 v U'.heap L ∧ FrameEnd U o U' L ({ frames := 2, cells := 0, slots := 0, locals := 24 } : Room).cells ({ frames := 2, cells := 0, slots := 0, locals := 24 } : Room).slots) := by
  refine MetFree.of_bodySF (plainFor_of_name pn_14) hisR ?_
  intro p e s m args below meth c s₁ Bd hml0 hP0 hK
  obtain ⟨rfl, hZ, hh⟩ := hP0
  have hx := Bd.exec
  have hby := Bd.bytes
  have hml : c.maxLocals = 3 := hml0
  have hown : s.vm.findClass oS3 = some m.cls := findClass_of_methodNamed Bd.named
  have hnm := (name_of_methodNamed Bd.named Bd.method).1
  have X0 : Stand p l e ({ frames := 2, cells := 0, slots := 0, locals := 24 } : Room) s m #[(.ref a1), (.long p2)] below meth c s₁ [] 0 0 := Stand.of_body Bd
  have e0 : s₁.heap = h0 := by rw [← hh, Bd.state]; rfl
  have N0 := Fr.nil n0
  refine own_fin (st' := s₁.setTop (mkF m 0 #[oR a1, oj p2, .second] [])) (fun _ k => castTop (ef_rm14 m a1 p2) k) (fun P hP => ?_)
  have lt_a1 : @LT.lt Nat _ a1 h0.size := pr1.lt
  refine own_go (st' := s₁.setTop (mkF m 1 #[oR a1, oj p2, .second] [(.ref a1)])) (fun _ k => XS.aloadN X0.here hx rfl (hb hby d14_0) rfl rfl k) ?_
  obtain ⟨_, _, ⟨T1, LC1, kC1, nC1⟩, -, X1, ⟨Lc1, hQ1, lq1, yq1, zq1⟩, st1⟩ := X0.specialBack hx (y := oM48) rfl hown (mvT hZ (own_hw hw 109)) (mvT hZ (own_hw hw 110)) (mvT hZ (own_hw hw 114)) (by decide) (backOf (W := 0) (rm15 l Z a0 hw [] a1 h0 n0 (by omega) ) hZ (own_hw hw 114) (own_hw hw 113) (by decide) (by decide)) (g := (mkF m 1 #[oR a1, oj p2, .second] [(.ref a1)])) rfl (by rw [hml]; rfl) (Steps.refl _) (a := a1) (argsL := []) (rest := []) (lenOf pd_0 rfl) rfl (by show 2 * 0 + _ ≤ _; exact Nat.le_of_eq rfl) (hb hby d14_1) (fun _ _ => ⟨rfl, e0, (by decide : 0 + 0 ≤ _), (by decide : 0 + 0 ≤ _)⟩)
  dsimp only [Pt.U, Pt.locs, Pt.cells, Pt.slots] at X1 lq1 yq1 zq1 st1 hQ1
  subst lq1 yq1 zq1
  obtain ⟨rfl, Nq1, eq1⟩ := hQ1
  have N1 := Fr.app N0 Nq1
  refine own_go (st' := T1.setTop (mkF m 4 #[oR a1, oj p2, .second] [])) (fun _ k => st1.trans k) ?_
  refine own_go (st' := T1.setTop (mkF m 5 #[oR a1, oj p2, .second] [(.ref a1)])) (fun _ k => XS.aloadN X1.here hx rfl (hb hby d14_4) rfl rfl k) ?_
  refine own_go (st' := T1.setTop (mkF m 6 #[oR a1, oj p2, .second] [(.long p2), (.ref a1)])) (fun _ k => XS.lloadN X1.here hx rfl (hb hby d14_5) rfl k) ?_
  obtain ⟨T2, h2, X2, e2, W2, st2⟩ := putF X1 hx hZ hown (host := "") (Or.inl (own_hw hw 102)) Via.refl eq1 pr2 pr1 (Or.inr ⟨(own_hw hw 103), rfl, hnm⟩) (own_hw hw 105) (ty := .long) (by decide) rfl rfl (g := (mkF m 6 #[oR a1, oj p2, .second] [(.long p2), (.ref a1)])) rfl rfl (hb hby d14_6)
  have sz2 : h2.size = h0.size := W2.size
  have N2 := Fr.snoc X2 N1 (by omega)
  have f2 : Fld Z h2 a1 oS3 "value" "J" (.long p2) := pr2.same W2
  refine own_go (st' := T2.setTop (mkF m 9 #[oR a1, oj p2, .second] [])) (st2) ?_
  obtain ⟨fs, hr, hrun, hended, hW, hsame⟩ := X2.leave (v := none) (fun _ => rfl)
  refine ⟨_, _, ?_, hP _ _ hrun hended ⟨_, _, rfl, ?_, ⟨_, rfl⟩, hW, hsame.mono (by decide) (by decide)⟩⟩
  · exact X2.returnOut hx Bd.returns (hb hby d14_9) hr
  · show Qrm14 Z a1 p2 u3 h0 n0 _ T2.heap _
    have c4 : Exa Z h2 a1 oS3 := (pr1.wr W2)
    rw [e2]
    exact ⟨rfl, N2, ((Keep.refl h0 [a1]).wr W2 (Or.inl (List.mem_of_getElem? (i := 0) rfl))), c4, f2⟩
theorem pd_1 : parseMethodDescriptor "(J)V" = some ⟨[.long], none⟩ := by decide +kernel
theorem d7_0 : decode jdk_35_method_24_code 0 = .ok (.sipush 128, 3) := by decide +kernel
theorem d7_3 : decode jdk_35_method_24_code 3 = .ok (.istore_n 2, 1) := by decide +kernel
theorem d7_4 : decode jdk_35_method_24_code 4 = .ok (.lload_n 0, 1) := by decide +kernel
theorem d7_5 : decode jdk_35_method_24_code 5 = .ok (.ldc2_w 230, 3) := by decide +kernel
theorem d7_8 : decode jdk_35_method_24_code 8 = .ok (.lcmp, 1) := by decide +kernel
theorem d7_9 : decode jdk_35_method_24_code 9 = .ok (.ifCond .lt 22, 3) := by decide +kernel
theorem d7_12 : decode jdk_35_method_24_code 12 = .ok (.lload_n 0, 1) := by decide +kernel
theorem d7_13 : decode jdk_35_method_24_code 13 = .ok (.ldc2_w 232, 3) := by decide +kernel
theorem d7_16 : decode jdk_35_method_24_code 16 = .ok (.lcmp, 1) := by decide +kernel
theorem d7_17 : decode jdk_35_method_24_code 17 = .ok (.ifCond .gt 14, 3) := by decide +kernel
theorem d7_20 : decode jdk_35_method_24_code 20 = .ok (.getstatic 234, 3) := by decide +kernel
theorem d7_23 : decode jdk_35_method_24_code 23 = .ok (.lload_n 0, 1) := by decide +kernel
theorem d7_24 : decode jdk_35_method_24_code 24 = .ok (.l2i, 1) := by decide +kernel
theorem d7_25 : decode jdk_35_method_24_code 25 = .ok (.sipush 128, 3) := by decide +kernel
theorem d7_28 : decode jdk_35_method_24_code 28 = .ok (.iadd, 1) := by decide +kernel
theorem d7_29 : decode jdk_35_method_24_code 29 = .ok (.aaload, 1) := by decide +kernel
theorem d7_30 : decode jdk_35_method_24_code 30 = .ok (.areturn, 1) := by decide +kernel
theorem d7_31 : decode jdk_35_method_24_code 31 = .ok (.new 1, 3) := by decide +kernel
theorem d7_34 : decode jdk_35_method_24_code 34 = .ok (.dup, 1) := by decide +kernel
theorem d7_35 : decode jdk_35_method_24_code 35 = .ok (.lload_n 0, 1) := by decide +kernel
theorem d7_36 : decode jdk_35_method_24_code 36 = .ok (.invokespecial 240, 3) := by decide +kernel
theorem d7_39 : decode jdk_35_method_24_code 39 = .ok (.areturn, 1) := by decide +kernel
theorem pn_7 : plainName "java/lang/Long" = true := by first | (simp [plainName, overriddenIn]; done) | decide +kernel
theorem ef_rm7 (m : MethodId) (x0 : Int64) : entryFrame m #[(.long x0)] 3 = mkF m 0 #[.val (.long x0), .second, .unset] [] := by first | (simp [entryFrame, mkF, argsToLocals, Value.category]; done) | rfl
def Qrm7 (Z : State) (p1 : Int64) (cal : Addr) (h0 : Heap) (n0 : Nat) (v : Option Value) (h : Heap) (L : List Loc) : Prop := ∃ (r : Addr), (v = some (.ref r)) ∧ (Fr n0 L) ∧ (Keep h0 h []) ∧ (Exa Z h r "java/lang/Long") ∧ (Fld Z h r "java/lang/Long" "value" "J" (.long p1)) ∧ (own_Old r n0 h0.size)
set_option maxRecDepth 65536 in
set_option maxHeartbeats 40000000 in
theorem rm7 (l : Launch) (Z : State) (a0 : Array Value) (hw : ∀ d ∈ tables_1, d.before a0 Z = true) (ws : List Jvm.Cond) (p1 : Int64) (cal : Addr) (h0 : Heap) (n0 : Nat) (Z0 : n0 ≤ h0.size) (pr1 : Sta Z h0 oS24 "cache" oS25 (.ref cal)) (pr2 : own_CacheV Z h0 cal n0) :
    MetFree l oM2 (head1 (Jvm.Cond.code oM2 jdk_35_method_24_code 3 (some (.object oS3)) :: ws) ({ frames := 3, cells := 1, slots := 1, locals := 39 } : Room)) (fun a U => a = #[(.long p1)] ∧ Z.Warmed39 U.vm ∧ U.heap = h0) (fun _ _ _ _ _ => True) (fun _ U o U' => ∃ v L, o = .returned v ∧ Qrm7 Z p1 cal h0 n0 v U'.heap L ∧ FrameEnd U o U' L ({ frames := 3, cells := 1, slots := 1, locals := 39 } : Room).cells ({ frames := 3, cells := 1, slots := 1, locals := 39 } : Room).slots) := by
  refine MetFree.of_bodySF (plainFor_of_name pn_7) hisR ?_
  intro p e s m args below meth c s₁ Bd hml0 hP0 hK
  obtain ⟨rfl, hZ, hh⟩ := hP0
  have hx := Bd.exec
  have hby := Bd.bytes
  have hml : c.maxLocals = 3 := hml0
  have hown : s.vm.findClass oS3 = some m.cls := findClass_of_methodNamed Bd.named
  have hnm := (name_of_methodNamed Bd.named Bd.method).1
  have X0 : Stand p l e ({ frames := 3, cells := 1, slots := 1, locals := 39 } : Room) s m #[(.long p1)] below meth c s₁ [] 0 0 := Stand.of_body Bd
  have e0 : s₁.heap = h0 := by rw [← hh, Bd.state]; rfl
  have N0 := Fr.nil n0
  refine own_fin (st' := s₁.setTop (mkF m 0 #[oj p1, .second, .unset] [])) (fun _ k => castTop (ef_rm7 m p1) k) (fun P hP => ?_)
  have lt_cal : @LT.lt Nat _ cal h0.size := own_CacheV_lt pr2
  refine own_go (st' := s₁.setTop (mkF m 3 #[oj p1, .second, .unset] [(.int (128 : Int32))])) (fun _ k => XS.sipush X0.here hx rfl (hb hby d7_0) k) ?_
  refine own_go (st' := s₁.setTop (mkF m 4 #[oj p1, .second, oi 128] [])) (fun _ k => XS.istoreN X0.here hx rfl (hb hby d7_3) rfl (l' := #[oj p1, .second, oi 128]) rfl k) ?_
  refine own_go (st' := s₁.setTop (mkF m 5 #[oj p1, .second, oi 128] [(.long p1)])) (fun _ k => XS.lloadN X0.here hx rfl (hb hby d7_4) rfl k) ?_
  refine own_go (st' := s₁.setTop (mkF m 8 #[oj p1, .second, oi 128] [(.long (-128 : Int64)), (.long p1)])) (X0.ldc2Long hx hown (mvT hZ (own_hw hw 55)) (g := (mkF m 5 #[oj p1, .second, oi 128] [(.long p1)])) rfl (hb hby d7_5)) ?_
  refine own_go (st' := s₁.setTop (mkF m 9 #[oj p1, .second, oi 128] [(.int (lcmpW p1 (-128 : Int64)))])) (fun _ k => XS.lcmp X0.here hx rfl (hb hby d7_8) rfl k) ?_
  by_cases hc1 : p1 < (-128 : Int64)
  · --
    refine own_go (st' := s₁.setTop (mkF m 31 #[oj p1, .second, oi 128] [])) (fun _ k => XS.ifYes X0.here hx rfl (pc0 := 9) (pc' := 31) rfl (hb hby d7_9) rfl ((if0 _ _).trans (tlt ((lw_lt p1 (-128 : Int64)).mpr hc1)).1) (by decide) (by decide) k) ?_
    obtain ⟨T2, h2, X2, e2, E2, A2, D2, -, st2⟩ := newO X0 hx hZ hown (own_hw hw 104) (own_hw hw 105) (own_hw hw 53) e0 (g := (mkF m 31 #[oj p1, .second, oi 128] [])) rfl (hb hby d7_31) (by decide) (by decide)
    obtain ⟨b2, g2⟩ : ∃ z, z = h0.size := ⟨_, rfl⟩
    rw [← g2] at A2 D2 st2
    have sz2 : h0.size ≤ h2.size := E2.1
    have lt2 : @LT.lt Nat _ b2 h2.size := A2.lt
    have f3 : Fld Z h2 b2 oS3 "value" "J" (.long (0 : Int64)) := D2 (Or.inr (own_hw hw 103)) (ty := .long) (by decide)
    refine own_go (st' := T2.setTop (mkF m 34 #[oj p1, .second, oi 128] [(.ref b2)])) (st2) ?_
    refine own_go (st' := T2.setTop (mkF m 35 #[oj p1, .second, oi 128] [(.ref b2), (.ref b2)])) (fun _ k => XS.dup X2.here hx rfl (hb hby d7_34) rfl rfl k) ?_
    refine own_go (st' := T2.setTop (mkF m 36 #[oj p1, .second, oi 128] [(.long p1), (.ref b2), (.ref b2)])) (fun _ k => XS.lloadN X2.here hx rfl (hb hby d7_35) rfl k) ?_
    obtain ⟨_, _, ⟨T4, LC4, kC4, nC4⟩, -, X4, ⟨Lc4, hQ4, lq4, yq4, zq4⟩, st4⟩ := X2.specialBack hx (y := oM12) rfl hown (mvT hZ (own_hw hw 106)) (mvT hZ (own_hw hw 107)) (mvT hZ (own_hw hw 108)) (by decide) (backOf (W := 1) (rm14 l Z a0 hw [] b2 p1 (0 : Int64) h2 n0 (by omega) A2 f3 (by omega)) hZ (own_hw hw 108) (own_hw hw 53) (by decide) (by decide)) (g := (mkF m 36 #[oj p1, .second, oi 128] [(.long p1), (.ref b2), (.ref b2)])) rfl (by rw [hml]; rfl) (Steps.refl _) (a := b2) (argsL := [(.long p1)]) (rest := [(.ref b2)]) (lenOf pd_1 rfl) rfl (by show 2 * 0 + _ ≤ _; exact Nat.le_of_eq rfl) (hb hby d7_36) (fun _ _ => ⟨rfl, e2, (by decide : 1 + 0 ≤ _), (by decide : 1 + 0 ≤ _)⟩)
    dsimp only [Pt.U, Pt.locs, Pt.cells, Pt.slots] at X4 lq4 yq4 zq4 st4 hQ4
    subst lq4 yq4 zq4
    obtain ⟨h4, e4⟩ : ∃ z, T4.heap = z := ⟨_, rfl⟩
    rw [e4] at hQ4
    obtain ⟨rfl, Nq4, K4, g4_0, g4_1⟩ := hQ4
    have sz4 : h2.size ≤ h4.size := K4.1
    have N4 := Fr.app N0 Nq4
    have lt4_1 : @LT.lt Nat _ b2 h4.size := g4_0.lt
    refine own_go (st' := T4.setTop (mkF m 39 #[oj p1, .second, oi 128] [(.ref b2)])) (fun _ k => st4.trans k) ?_
    obtain ⟨fs, hr, hrun, hended, hW, hsame⟩ := X4.leave (v := some (.ref b2)) (fun h => by rw [Bd.returns] at h; cases h)
    refine ⟨_, _, ?_, hP _ _ hrun hended ⟨_, _, rfl, ?_, ⟨_, rfl⟩, hW, hsame.mono (by decide) (by decide)⟩⟩
    · exact retOut X4 hx Bd.returns rfl (Or.inr (Or.inr (Or.inr (Or.inr ⟨rfl, rfl, rfl⟩)))) (hb hby d7_39) hr
    · show Qrm7 Z p1 cal h0 n0 _ T4.heap _
      rw [e4]
      exact ⟨b2, rfl, N4, (((Keep.refl h0 []).ext E2).trans K4 (allS (P := fun x => x ∈ [] ∨ h0.size ≤ x) (Or.inr (by omega)) all0)), g4_0, g4_1, (fun x_ q1_ q2_ => by omega)⟩
  · --
    refine own_go (st' := s₁.setTop (mkF m 12 #[oj p1, .second, oi 128] [])) (fun _ k => XS.ifNo X0.here hx rfl (hb hby d7_9) rfl ((if0 _ _).trans (flt (fun q_ => hc1 ((lw_lt p1 (-128 : Int64)).mp q_))).1) k) ?_
    refine own_go (st' := s₁.setTop (mkF m 13 #[oj p1, .second, oi 128] [(.long p1)])) (fun _ k => XS.lloadN X0.here hx rfl (hb hby d7_12) rfl k) ?_
    refine own_go (st' := s₁.setTop (mkF m 16 #[oj p1, .second, oi 128] [(.long (127 : Int64)), (.long p1)])) (X0.ldc2Long hx hown (mvT hZ (own_hw hw 56)) (g := (mkF m 13 #[oj p1, .second, oi 128] [(.long p1)])) rfl (hb hby d7_13)) ?_
    refine own_go (st' := s₁.setTop (mkF m 17 #[oj p1, .second, oi 128] [(.int (lcmpW p1 (127 : Int64)))])) (fun _ k => XS.lcmp X0.here hx rfl (hb hby d7_16) rfl k) ?_
    by_cases hc6 : (127 : Int64) < p1
    · --
      refine own_go (st' := s₁.setTop (mkF m 31 #[oj p1, .second, oi 128] [])) (fun _ k => XS.ifYes X0.here hx rfl (pc0 := 17) (pc' := 31) rfl (hb hby d7_17) rfl ((if0 _ _).trans (tlt ((lw_gt p1 (127 : Int64)).mpr hc6)).2.2.1) (by decide) (by decide) k) ?_
      obtain ⟨T7, h7, X7, e7, E7, A7, D7, -, st7⟩ := newO X0 hx hZ hown (own_hw hw 104) (own_hw hw 105) (own_hw hw 53) e0 (g := (mkF m 31 #[oj p1, .second, oi 128] [])) rfl (hb hby d7_31) (by decide) (by decide)
      obtain ⟨b7, g7⟩ : ∃ z, z = h0.size := ⟨_, rfl⟩
      rw [← g7] at A7 D7 st7
      have sz7 : h0.size ≤ h7.size := E7.1
      have lt7 : @LT.lt Nat _ b7 h7.size := A7.lt
      have f8 : Fld Z h7 b7 oS3 "value" "J" (.long (0 : Int64)) := D7 (Or.inr (own_hw hw 103)) (ty := .long) (by decide)
      refine own_go (st' := T7.setTop (mkF m 34 #[oj p1, .second, oi 128] [(.ref b7)])) (st7) ?_
      refine own_go (st' := T7.setTop (mkF m 35 #[oj p1, .second, oi 128] [(.ref b7), (.ref b7)])) (fun _ k => XS.dup X7.here hx rfl (hb hby d7_34) rfl rfl k) ?_
      refine own_go (st' := T7.setTop (mkF m 36 #[oj p1, .second, oi 128] [(.long p1), (.ref b7), (.ref b7)])) (fun _ k => XS.lloadN X7.here hx rfl (hb hby d7_35) rfl k) ?_
      obtain ⟨_, _, ⟨T9, LC9, kC9, nC9⟩, -, X9, ⟨Lc9, hQ9, lq9, yq9, zq9⟩, st9⟩ := X7.specialBack hx (y := oM12) rfl hown (mvT hZ (own_hw hw 106)) (mvT hZ (own_hw hw 107)) (mvT hZ (own_hw hw 108)) (by decide) (backOf (W := 1) (rm14 l Z a0 hw [] b7 p1 (0 : Int64) h7 n0 (by omega) A7 f8 (by omega)) hZ (own_hw hw 108) (own_hw hw 53) (by decide) (by decide)) (g := (mkF m 36 #[oj p1, .second, oi 128] [(.long p1), (.ref b7), (.ref b7)])) rfl (by rw [hml]; rfl) (Steps.refl _) (a := b7) (argsL := [(.long p1)]) (rest := [(.ref b7)]) (lenOf pd_1 rfl) rfl (by show 2 * 0 + _ ≤ _; exact Nat.le_of_eq rfl) (hb hby d7_36) (fun _ _ => ⟨rfl, e7, (by decide : 1 + 0 ≤ _), (by decide : 1 + 0 ≤ _)⟩)
      dsimp only [Pt.U, Pt.locs, Pt.cells, Pt.slots] at X9 lq9 yq9 zq9 st9 hQ9
      subst lq9 yq9 zq9
      obtain ⟨h9, e9⟩ : ∃ z, T9.heap = z := ⟨_, rfl⟩
      rw [e9] at hQ9
      obtain ⟨rfl, Nq9, K9, g9_0, g9_1⟩ := hQ9
      have sz9 : h7.size ≤ h9.size := K9.1
      have N9 := Fr.app N0 Nq9
      have lt9_1 : @LT.lt Nat _ b7 h9.size := g9_0.lt
      refine own_go (st' := T9.setTop (mkF m 39 #[oj p1, .second, oi 128] [(.ref b7)])) (fun _ k => st9.trans k) ?_
      obtain ⟨fs, hr, hrun, hended, hW, hsame⟩ := X9.leave (v := some (.ref b7)) (fun h => by rw [Bd.returns] at h; cases h)
      refine ⟨_, _, ?_, hP _ _ hrun hended ⟨_, _, rfl, ?_, ⟨_, rfl⟩, hW, hsame.mono (by decide) (by decide)⟩⟩
      · exact retOut X9 hx Bd.returns rfl (Or.inr (Or.inr (Or.inr (Or.inr ⟨rfl, rfl, rfl⟩)))) (hb hby d7_39) hr
      · show Qrm7 Z p1 cal h0 n0 _ T9.heap _
        rw [e9]
        exact ⟨b7, rfl, N9, (((Keep.refl h0 []).ext E7).trans K9 (allS (P := fun x => x ∈ [] ∨ h0.size ≤ x) (Or.inr (by omega)) all0)), g9_0, g9_1, (fun x_ q1_ q2_ => by omega)⟩
    · --
      refine own_go (st' := s₁.setTop (mkF m 20 #[oj p1, .second, oi 128] [])) (fun _ k => XS.ifNo X0.here hx rfl (hb hby d7_17) rfl ((if0 _ _).trans (flt (fun q_ => hc6 ((lw_gt p1 (127 : Int64)).mp q_))).2.2.1) k) ?_
      obtain ⟨T11, X11, e11, st11⟩ := getS2 X0 hx hZ hown (host := "") (Or.inl (own_hw hw 57)) Via.refl e0 pr1 (g := (mkF m 20 #[oj p1, .second, oi 128] [])) rfl (hb hby d7_20)
      refine own_go (st' := T11.setTop (mkF m 23 #[oj p1, .second, oi 128] [(.ref cal)])) (st11) ?_
      refine own_go (st' := T11.setTop (mkF m 24 #[oj p1, .second, oi 128] [(.long p1), (.ref cal)])) (fun _ k => XS.lloadN X11.here hx rfl (hb hby d7_23) rfl k) ?_
      refine own_go (st' := T11.setTop (mkF m 25 #[oj p1, .second, oi 128] [(.int p1.toInt32), (.ref cal)])) (fun _ k => XS.l2i X11.here hx rfl (hb hby d7_24) rfl k) ?_
      refine own_go (st' := T11.setTop (mkF m 28 #[oj p1, .second, oi 128] [(.int (128 : Int32)), (.int p1.toInt32), (.ref cal)])) (fun _ k => XS.sipush X11.here hx rfl (hb hby d7_25) k) ?_
      refine own_go (st' := T11.setTop (mkF m 29 #[oj p1, .second, oi 128] [(.int (p1.toInt32 + (128 : Int32))), (.ref cal)])) (fun _ k => XS.iadd X11.here hx rfl (hb hby d7_28) rfl k) ?_
      obtain ⟨cl12, Ar12, S12, -, H12⟩ := id pr2
      have hi12 := own_idxL p1 hc1 hc6
      have hin12 : ¬ ((p1.toInt32 + (128 : Int32)) < 0 ∨ cl12.slots.size ≤ ((p1.toInt32 + (128 : Int32))).toNatClampNeg) := by rw [S12]; intro q; rcases q with q | q; exact hi12.1 q; exact absurd hi12.2 (Nat.not_lt.mpr q)
      obtain ⟨r12, hat12, hlt12, Er12, Fr12⟩ := H12 _ hi12.2
      rw [own_idxV p1 hc1 hc6] at Fr12
      have ltr12 : @LT.lt Nat _ r12 h0.size := Er12.lt
      refine own_go (st' := T11.setTop (mkF m 30 #[oj p1, .second, oi 128] [(.ref r12)])) (X11.aaload hx (j := (p1.toInt32 + (128 : Int32))) (v := .ref r12) (by rw [e11]; exact Ar12.1) (State.isArrayOf_alike hZ.alike Ar12.2.1) rfl Ar12.2.2 hin12 hat12 (g := (mkF m 29 #[oj p1, .second, oi 128] [(.int (p1.toInt32 + (128 : Int32))), (.ref cal)])) rfl rfl (hb hby d7_29)) ?_
      obtain ⟨fs, hr, hrun, hended, hW, hsame⟩ := X11.leave (v := some (.ref r12)) (fun h => by rw [Bd.returns] at h; cases h)
      refine ⟨_, _, ?_, hP _ _ hrun hended ⟨_, _, rfl, ?_, ⟨_, rfl⟩, hW, hsame.mono (by decide) (by decide)⟩⟩
      · exact retOut X11 hx Bd.returns rfl (Or.inr (Or.inr (Or.inr (Or.inr ⟨rfl, rfl, rfl⟩)))) (hb hby d7_30) hr
      · show Qrm7 Z p1 cal h0 n0 _ T11.heap _
        rw [e11]
        exact ⟨r12, rfl, N0, (Keep.refl h0 []), Er12, Fr12, (fun x_ q1_ q2_ => by omega)⟩
theorem d4_0 : decode jdk_71_method_1_code 0 = .ok (.aload_n 0, 1) := by decide +kernel
theorem d4_1 : decode jdk_71_method_1_code 1 = .ok (.invokespecial 1, 3) := by decide +kernel
theorem d4_4 : decode jdk_71_method_1_code 4 = .ok (.return_, 1) := by decide +kernel
theorem pn_4 : plainName "java/util/AbstractMap" = true := by first | (simp [plainName, overriddenIn]; done) | decide +kernel
theorem ef_rm4 (m : MethodId) (x0 : Addr) : entryFrame m #[(.ref x0)] 1 = mkF m 0 #[.val (.ref x0)] [] := by first | (simp [entryFrame, mkF, argsToLocals, Value.category]; done) | rfl
def Qrm4 (Z : State) (a1 : Addr) (h0 : Heap) (n0 : Nat) (v : Option Value) (h : Heap) (L : List Loc) : Prop := (v = none) ∧ (Fr n0 L) ∧ (h = h0)
set_option maxRecDepth 65536 in
set_option maxHeartbeats 40000000 in
theorem rm4 (l : Launch) (Z : State) (a0 : Array Value) (hw : ∀ d ∈ tables_1, d.before a0 Z = true) (ws : List Jvm.Cond) (a1 : Addr) (h0 : Heap) (n0 : Nat) (Z0 : n0 ≤ h0.size)  :
    MetFree l oM49 (head1 (Jvm.Cond.code oM49 jdk_71_method_1_code 1 none :: ws) ({ frames := 1, cells := 0, slots := 0, locals := 12 } : Room)) (fun a U => a = #[(.ref a1)] ∧ Z.Warmed39 U.vm ∧ U.heap = h0) (fun _ _ _ _ _ => True) (fun _ U o U' => ∃ v L, o = .returned v ∧ Qrm4 Z a1 h0 n0 v U'.heap L ∧ FrameEnd U o U' L ({ frames := 1, cells := 0, slots := 0, locals := 12 } : Room).cells ({ frames := 1, cells := 0, slots := 0, locals := 12 } : Room).slots) := by
  refine MetFree.of_bodySF (plainFor_of_name pn_4) hisR ?_
  intro p e s m args below meth c s₁ Bd hml0 hP0 hK
  obtain ⟨rfl, hZ, hh⟩ := hP0
  have hx := Bd.exec
  have hby := Bd.bytes
  have hml : c.maxLocals = 1 := hml0
  have hown : s.vm.findClass "java/util/AbstractMap" = some m.cls := findClass_of_methodNamed Bd.named
  have hnm := (name_of_methodNamed Bd.named Bd.method).1
  have X0 : Stand p l e ({ frames := 1, cells := 0, slots := 0, locals := 12 } : Room) s m #[(.ref a1)] below meth c s₁ [] 0 0 := Stand.of_body Bd
  have e0 : s₁.heap = h0 := by rw [← hh, Bd.state]; rfl
  have N0 := Fr.nil n0
  refine own_fin (st' := s₁.setTop (mkF m 0 #[oR a1] [])) (fun _ k => castTop (ef_rm4 m a1) k) (fun P hP => ?_)
  refine own_go (st' := s₁.setTop (mkF m 1 #[oR a1] [(.ref a1)])) (fun _ k => XS.aloadN X0.here hx rfl (hb hby d4_0) rfl rfl k) ?_
  obtain ⟨T1, X1, e1, st1⟩ := initO X0 hx hZ hown (own_hw hw 29) (own_hw hw 13) (own_hw hw 14) e0 (g := (mkF m 1 #[oR a1] [(.ref a1)])) rfl (by rw [hml]; rfl) rfl (hb hby d4_1) (by decide) (W := 0) (by show 2 * 0 + _ ≤ _; exact Nat.le_of_eq rfl) (by decide)
  refine own_go (st' := T1.setTop (mkF m 4 #[oR a1] [])) (st1) ?_
  obtain ⟨fs, hr, hrun, hended, hW, hsame⟩ := X1.leave (v := none) (fun _ => rfl)
  refine ⟨_, _, ?_, hP _ _ hrun hended ⟨_, _, rfl, ?_, ⟨_, rfl⟩, hW, hsame.mono (by decide) (by decide)⟩⟩
  · exact X1.returnOut hx Bd.returns (hb hby d4_4) hr
  · show Qrm4 Z a1 h0 n0 _ T1.heap _
    rw [e1]
    exact ⟨rfl, N0, rfl⟩
theorem d34_0 : decode jdk_22_method_1_code 0 = .ok (.aload_n 0, 1) := by decide +kernel
theorem d34_1 : decode jdk_22_method_1_code 1 = .ok (.invokespecial 1, 3) := by decide +kernel
theorem d34_4 : decode jdk_22_method_1_code 4 = .ok (.return_, 1) := by decide +kernel
theorem pn_34 : plainName "java/util/AbstractCollection" = true := by first | (simp [plainName, overriddenIn]; done) | decide +kernel
theorem ef_rm34 (m : MethodId) (x0 : Addr) : entryFrame m #[(.ref x0)] 1 = mkF m 0 #[.val (.ref x0)] [] := by first | (simp [entryFrame, mkF, argsToLocals, Value.category]; done) | rfl
def Qrm34 (Z : State) (a1 : Addr) (h0 : Heap) (n0 : Nat) (v : Option Value) (h : Heap) (L : List Loc) : Prop := (v = none) ∧ (Fr n0 L) ∧ (h = h0)
set_option maxRecDepth 65536 in
set_option maxHeartbeats 40000000 in
theorem rm34 (l : Launch) (Z : State) (a0 : Array Value) (hw : ∀ d ∈ tables_1, d.before a0 Z = true) (ws : List Jvm.Cond) (a1 : Addr) (h0 : Heap) (n0 : Nat) (Z0 : n0 ≤ h0.size)  :
    MetFree l oM50 (head1 (Jvm.Cond.code oM50 jdk_22_method_1_code 1 none :: ws) ({ frames := 1, cells := 0, slots := 0, locals := 12 } : Room)) (fun a U => a = #[(.ref a1)] ∧ Z.Warmed39 U.vm ∧ U.heap = h0) (fun _ _ _ _ _ => True) (fun _ U o U' => ∃ v L, o = .returned v ∧ Qrm34 Z a1 h0 n0 v U'.heap L ∧ FrameEnd U o U' L ({ frames := 1, cells := 0, slots := 0, locals := 12 } : Room).cells ({ frames := 1, cells := 0, slots := 0, locals := 12 } : Room).slots) := by
  refine MetFree.of_bodySF (plainFor_of_name pn_34) hisR ?_
  intro p e s m args below meth c s₁ Bd hml0 hP0 hK
  obtain ⟨rfl, hZ, hh⟩ := hP0
  have hx := Bd.exec
  have hby := Bd.bytes
  have hml : c.maxLocals = 1 := hml0
  have hown : s.vm.findClass "java/util/AbstractCollection" = some m.cls := findClass_of_methodNamed Bd.named
  have hnm := (name_of_methodNamed Bd.named Bd.method).1
  have X0 : Stand p l e ({ frames := 1, cells := 0, slots := 0, locals := 12 } : Room) s m #[(.ref a1)] below meth c s₁ [] 0 0 := Stand.of_body Bd
  have e0 : s₁.heap = h0 := by rw [← hh, Bd.state]; rfl
  have N0 := Fr.nil n0
  refine own_fin (st' := s₁.setTop (mkF m 0 #[oR a1] [])) (fun _ k => castTop (ef_rm34 m a1) k) (fun P hP => ?_)
  refine own_go (st' := s₁.setTop (mkF m 1 #[oR a1] [(.ref a1)])) (fun _ k => XS.aloadN X0.here hx rfl (hb hby d34_0) rfl rfl k) ?_
  obtain ⟨T1, X1, e1, st1⟩ := initO X0 hx hZ hown (own_hw hw 246) (own_hw hw 13) (own_hw hw 14) e0 (g := (mkF m 1 #[oR a1] [(.ref a1)])) rfl (by rw [hml]; rfl) rfl (hb hby d34_1) (by decide) (W := 0) (by show 2 * 0 + _ ≤ _; exact Nat.le_of_eq rfl) (by decide)
  refine own_go (st' := T1.setTop (mkF m 4 #[oR a1] [])) (st1) ?_
  obtain ⟨fs, hr, hrun, hended, hW, hsame⟩ := X1.leave (v := none) (fun _ => rfl)
  refine ⟨_, _, ?_, hP _ _ hrun hended ⟨_, _, rfl, ?_, ⟨_, rfl⟩, hW, hsame.mono (by decide) (by decide)⟩⟩
  · exact X1.returnOut hx Bd.returns (hb hby d34_4) hr
  · show Qrm34 Z a1 h0 n0 _ T1.heap _
    rw [e1]
    exact ⟨rfl, N0, rfl⟩
theorem d33_0 : decode jdk_91_method_1_code 0 = .ok (.aload_n 0, 1) := by decide +kernel
theorem d33_1 : decode jdk_91_method_1_code 1 = .ok (.invokespecial 1, 3) := by decide +kernel
theorem d33_4 : decode jdk_91_method_1_code 4 = .ok (.return_, 1) := by decide +kernel
theorem pn_33 : plainName "java/util/AbstractSet" = true := by first | (simp [plainName, overriddenIn]; done) | decide +kernel
theorem ef_rm33 (m : MethodId) (x0 : Addr) : entryFrame m #[(.ref x0)] 1 = mkF m 0 #[.val (.ref x0)] [] := by first | (simp [entryFrame, mkF, argsToLocals, Value.category]; done) | rfl
def Qrm33 (Z : State) (a1 : Addr) (h0 : Heap) (n0 : Nat) (v : Option Value) (h : Heap) (L : List Loc) : Prop := (v = none) ∧ (Fr n0 L) ∧ (h = h0)
set_option maxRecDepth 65536 in
set_option maxHeartbeats 40000000 in
theorem rm33 (l : Launch) (Z : State) (a0 : Array Value) (hw : ∀ d ∈ tables_1, d.before a0 Z = true) (ws : List Jvm.Cond) (a1 : Addr) (h0 : Heap) (n0 : Nat) (Z0 : n0 ≤ h0.size)  :
    MetFree l oM13 (head1 (Jvm.Cond.code oM13 jdk_91_method_1_code 1 none :: ws) ({ frames := 2, cells := 0, slots := 0, locals := 24 } : Room)) (fun a U => a = #[(.ref a1)] ∧ Z.Warmed39 U.vm ∧ U.heap = h0) (fun _ _ _ _ _ => True) (fun _ U o U' => ∃ v L, o = .returned v ∧ Qrm33 Z a1 h0 n0 v U'.heap L ∧ FrameEnd U o U' L ({ frames := 2, cells := 0, slots := 0, locals := 24 } : Room).cells ({ frames := 2, cells := 0, slots := 0, locals := 24 } : Room).slots) := by
  refine MetFree.of_bodySF (plainFor_of_name pn_33) hisR ?_
  intro p e s m args below meth c s₁ Bd hml0 hP0 hK
  obtain ⟨rfl, hZ, hh⟩ := hP0
  have hx := Bd.exec
  have hby := Bd.bytes
  have hml : c.maxLocals = 1 := hml0
  have hown : s.vm.findClass "java/util/AbstractSet" = some m.cls := findClass_of_methodNamed Bd.named
  have hnm := (name_of_methodNamed Bd.named Bd.method).1
  have X0 : Stand p l e ({ frames := 2, cells := 0, slots := 0, locals := 24 } : Room) s m #[(.ref a1)] below meth c s₁ [] 0 0 := Stand.of_body Bd
  have e0 : s₁.heap = h0 := by rw [← hh, Bd.state]; rfl
  have N0 := Fr.nil n0
  refine own_fin (st' := s₁.setTop (mkF m 0 #[oR a1] [])) (fun _ k => castTop (ef_rm33 m a1) k) (fun P hP => ?_)
  refine own_go (st' := s₁.setTop (mkF m 1 #[oR a1] [(.ref a1)])) (fun _ k => XS.aloadN X0.here hx rfl (hb hby d33_0) rfl rfl k) ?_
  obtain ⟨_, _, ⟨T1, LC1, kC1, nC1⟩, -, X1, ⟨Lc1, hQ1, lq1, yq1, zq1⟩, st1⟩ := X0.specialBack hx (y := oM50) rfl hown (mvT hZ (own_hw hw 240)) (mvT hZ (own_hw hw 241)) (mvT hZ (own_hw hw 245)) (by decide) (backOf (W := 0) (rm34 l Z a0 hw [] a1 h0 n0 (by omega) ) hZ (own_hw hw 245) (own_hw hw 244) (by decide) (by decide)) (g := (mkF m 1 #[oR a1] [(.ref a1)])) rfl (by rw [hml]; rfl) (Steps.refl _) (a := a1) (argsL := []) (rest := []) (lenOf pd_0 rfl) rfl (by show 2 * 0 + _ ≤ _; exact Nat.le_of_eq rfl) (hb hby d33_1) (fun _ _ => ⟨rfl, e0, (by decide : 0 + 0 ≤ _), (by decide : 0 + 0 ≤ _)⟩)
  dsimp only [Pt.U, Pt.locs, Pt.cells, Pt.slots] at X1 lq1 yq1 zq1 st1 hQ1
  subst lq1 yq1 zq1
  obtain ⟨rfl, Nq1, eq1⟩ := hQ1
  have N1 := Fr.app N0 Nq1
  refine own_go (st' := T1.setTop (mkF m 4 #[oR a1] [])) (fun _ k => st1.trans k) ?_
  obtain ⟨fs, hr, hrun, hended, hW, hsame⟩ := X1.leave (v := none) (fun _ => rfl)
  refine ⟨_, _, ?_, hP _ _ hrun hended ⟨_, _, rfl, ?_, ⟨_, rfl⟩, hW, hsame.mono (by decide) (by decide)⟩⟩
  · exact X1.returnOut hx Bd.returns (hb hby d33_4) hr
  · show Qrm33 Z a1 h0 n0 _ T1.heap _
    rw [eq1]
    exact ⟨rfl, N1, rfl⟩
theorem d3_0 : decode jdk_2729_method_2_code 0 = .ok (.aload_n 0, 1) := by decide +kernel
theorem d3_1 : decode jdk_2729_method_2_code 1 = .ok (.invokespecial 1, 3) := by decide +kernel
theorem d3_4 : decode jdk_2729_method_2_code 4 = .ok (.aload_n 0, 1) := by decide +kernel
theorem d3_5 : decode jdk_2729_method_2_code 5 = .ok (.iconst 0, 1) := by decide +kernel
theorem d3_6 : decode jdk_2729_method_2_code 6 = .ok (.putfield 7, 3) := by decide +kernel
theorem d3_9 : decode jdk_2729_method_2_code 9 = .ok (.aload_n 0, 1) := by decide +kernel
theorem d3_10 : decode jdk_2729_method_2_code 10 = .ok (.iconst 0, 1) := by decide +kernel
theorem d3_11 : decode jdk_2729_method_2_code 11 = .ok (.putfield 13, 3) := by decide +kernel
theorem d3_14 : decode jdk_2729_method_2_code 14 = .ok (.aload_n 0, 1) := by decide +kernel
theorem d3_15 : decode jdk_2729_method_2_code 15 = .ok (.aload_n 1, 1) := by decide +kernel
theorem d3_16 : decode jdk_2729_method_2_code 16 = .ok (.putfield 16, 3) := by decide +kernel
theorem d3_19 : decode jdk_2729_method_2_code 19 = .ok (.return_, 1) := by decide +kernel
theorem pn_3 : plainName "java/util/TreeMap" = true := by first | (simp [plainName, overriddenIn]; done) | decide +kernel
theorem ef_rm3 (m : MethodId) (x0 : Addr) (x1 : Addr) : entryFrame m #[(.ref x0), (.ref x1)] 2 = mkF m 0 #[.val (.ref x0), .val (.ref x1)] [] := by first | (simp [entryFrame, mkF, argsToLocals, Value.category]; done) | rfl
def Qrm3 (Z : State) (a1 : Addr) (cmp : Addr) (h0 : Heap) (n0 : Nat) (v : Option Value) (h : Heap) (L : List Loc) : Prop := (v = none) ∧ (Fr n0 L) ∧ (Keep h0 h [a1]) ∧ (Exa Z h a1 "java/util/TreeMap") ∧ (Fld Z h a1 "java/util/TreeMap" "comparator" "Ljava/util/Comparator;" (.ref cmp)) ∧ (Fld Z h a1 "java/util/TreeMap" "root" "Ljava/util/TreeMap$Entry;" .null) ∧ (Fld Z h a1 "java/util/TreeMap" "size" "I" (.int (0 : Int32))) ∧ (Fld Z h a1 "java/util/TreeMap" "modCount" "I" (.int (0 : Int32))) ∧ (Fld Z h a1 "java/util/TreeMap" "navigableKeySet" "Ljava/util/TreeMap$KeySet;" .null) ∧ (Fld Z h a1 "java/util/TreeMap" "entrySet" "Ljava/util/TreeMap$EntrySet;" .null)
set_option maxRecDepth 65536 in
set_option maxHeartbeats 40000000 in
theorem rm3 (l : Launch) (Z : State) (a0 : Array Value) (hw : ∀ d ∈ tables_1, d.before a0 Z = true) (ws : List Jvm.Cond) (a1 : Addr) (cmp : Addr) (h0 : Heap) (n0 : Nat) (Z0 : n0 ≤ h0.size) (pr1 : Exa Z h0 a1 oS0) (pr2 : Fld Z h0 a1 oS0 "comparator" oS6 .null) (pr3 : Fld Z h0 a1 oS0 "root" oS2 .null) (pr4 : Fld Z h0 a1 oS0 "size" "I" (.int (0 : Int32))) (pr5 : Fld Z h0 a1 oS0 "modCount" "I" (.int (0 : Int32))) (pr6 : Fld Z h0 a1 oS0 oS10 oS11 .null) (pr7 : Fld Z h0 a1 oS0 "entrySet" oS12 .null) (pr8 : n0 ≤ a1) :
    MetFree l oM14 (head1 (Jvm.Cond.code oM14 jdk_2729_method_2_code 2 none :: ws) ({ frames := 2, cells := 0, slots := 0, locals := 24 } : Room)) (fun a U => a = #[(.ref a1), (.ref cmp)] ∧ Z.Warmed39 U.vm ∧ U.heap = h0) (fun _ _ _ _ _ => True) (fun _ U o U' => ∃ v L, o = .returned v ∧ Qrm3 Z a1 cmp h0 n0 v U'.heap L ∧ FrameEnd U o U' L ({ frames := 2, cells := 0, slots := 0, locals := 24 } : Room).cells ({ frames := 2, cells := 0, slots := 0, locals := 24 } : Room).slots) := by
  refine MetFree.of_bodySF (plainFor_of_name pn_3) hisR ?_
  intro p e s m args below meth c s₁ Bd hml0 hP0 hK
  obtain ⟨rfl, hZ, hh⟩ := hP0
  have hx := Bd.exec
  have hby := Bd.bytes
  have hml : c.maxLocals = 2 := hml0
  have hown : s.vm.findClass oS0 = some m.cls := findClass_of_methodNamed Bd.named
  have hnm := (name_of_methodNamed Bd.named Bd.method).1
  have X0 : Stand p l e ({ frames := 2, cells := 0, slots := 0, locals := 24 } : Room) s m #[(.ref a1), (.ref cmp)] below meth c s₁ [] 0 0 := Stand.of_body Bd
  have e0 : s₁.heap = h0 := by rw [← hh, Bd.state]; rfl
  have N0 := Fr.nil n0
  refine own_fin (st' := s₁.setTop (mkF m 0 #[oR a1, oR cmp] [])) (fun _ k => castTop (ef_rm3 m a1 cmp) k) (fun P hP => ?_)
  have lt_a1 : @LT.lt Nat _ a1 h0.size := pr1.lt
  refine own_go (st' := s₁.setTop (mkF m 1 #[oR a1, oR cmp] [(.ref a1)])) (fun _ k => XS.aloadN X0.here hx rfl (hb hby d3_0) rfl rfl k) ?_
  obtain ⟨_, _, ⟨T1, LC1, kC1, nC1⟩, -, X1, ⟨Lc1, hQ1, lq1, yq1, zq1⟩, st1⟩ := X0.specialBack hx (y := oM49) rfl hown (mvT hZ (own_hw hw 23)) (mvT hZ (own_hw hw 24)) (mvT hZ (own_hw hw 28)) (by decide) (backOf (W := 0) (rm4 l Z a0 hw [] a1 h0 n0 (by omega) ) hZ (own_hw hw 28) (own_hw hw 27) (by decide) (by decide)) (g := (mkF m 1 #[oR a1, oR cmp] [(.ref a1)])) rfl (by rw [hml]; rfl) (Steps.refl _) (a := a1) (argsL := []) (rest := []) (lenOf pd_0 rfl) rfl (by show 2 * 0 + _ ≤ _; exact Nat.le_of_eq rfl) (hb hby d3_1) (fun _ _ => ⟨rfl, e0, (by decide : 0 + 0 ≤ _), (by decide : 0 + 0 ≤ _)⟩)
  dsimp only [Pt.U, Pt.locs, Pt.cells, Pt.slots] at X1 lq1 yq1 zq1 st1 hQ1
  subst lq1 yq1 zq1
  obtain ⟨rfl, Nq1, eq1⟩ := hQ1
  have N1 := Fr.app N0 Nq1
  refine own_go (st' := T1.setTop (mkF m 4 #[oR a1, oR cmp] [])) (fun _ k => st1.trans k) ?_
  refine own_go (st' := T1.setTop (mkF m 5 #[oR a1, oR cmp] [(.ref a1)])) (fun _ k => XS.aloadN X1.here hx rfl (hb hby d3_4) rfl rfl k) ?_
  refine own_go (st' := T1.setTop (mkF m 6 #[oR a1, oR cmp] [(.int (0 : Int32)), (.ref a1)])) (fun _ k => XS.iconst X1.here hx rfl (hb hby d3_5) k) ?_
  obtain ⟨T2, h2, X2, e2, W2, st2⟩ := putF X1 hx hZ hown (host := "") (Or.inl (own_hw hw 30)) Via.refl eq1 pr4 pr1 (Or.inl (own_hw hw 31)) (own_hw hw 16) (ty := .int) (by decide) rfl rfl (g := (mkF m 6 #[oR a1, oR cmp] [(.int (0 : Int32)), (.ref a1)])) rfl rfl (hb hby d3_6)
  have sz2 : h2.size = h0.size := W2.size
  have N2 := Fr.snoc X2 N1 (by omega)
  have f2 : Fld Z h2 a1 oS0 "size" "I" (.int (0 : Int32)) := pr4.same W2
  refine own_go (st' := T2.setTop (mkF m 9 #[oR a1, oR cmp] [])) (st2) ?_
  refine own_go (st' := T2.setTop (mkF m 10 #[oR a1, oR cmp] [(.ref a1)])) (fun _ k => XS.aloadN X2.here hx rfl (hb hby d3_9) rfl rfl k) ?_
  refine own_go (st' := T2.setTop (mkF m 11 #[oR a1, oR cmp] [(.int (0 : Int32)), (.ref a1)])) (fun _ k => XS.iconst X2.here hx rfl (hb hby d3_10) k) ?_
  have c3 : Fld Z h2 a1 oS0 "modCount" "I" (.int (0 : Int32)) := (pr5.other W2 (Or.inr (slot_ne (Or.inl (own_hw hw 33)) (Or.inl (own_hw hw 31)) (by decide) (t := .int) (t' := .int) (by decide) (by decide))))
  have c4 : Exa Z h2 a1 oS0 := (pr1.wr W2)
  obtain ⟨T5, h5, X5, e5, W5, st5⟩ := putF X2 hx hZ hown (host := "") (Or.inl (own_hw hw 32)) Via.refl e2 c3 c4 (Or.inl (own_hw hw 33)) (own_hw hw 16) (ty := .int) (by decide) rfl rfl (g := (mkF m 11 #[oR a1, oR cmp] [(.int (0 : Int32)), (.ref a1)])) rfl rfl (hb hby d3_11)
  have sz5 : h5.size = h2.size := W5.size
  have N5 := Fr.snoc X5 N2 (by omega)
  have f5 : Fld Z h5 a1 oS0 "modCount" "I" (.int (0 : Int32)) := c3.same W5
  refine own_go (st' := T5.setTop (mkF m 14 #[oR a1, oR cmp] [])) (st5) ?_
  refine own_go (st' := T5.setTop (mkF m 15 #[oR a1, oR cmp] [(.ref a1)])) (fun _ k => XS.aloadN X5.here hx rfl (hb hby d3_14) rfl rfl k) ?_
  refine own_go (st' := T5.setTop (mkF m 16 #[oR a1, oR cmp] [(.ref cmp), (.ref a1)])) (fun _ k => XS.aloadN X5.here hx rfl (hb hby d3_15) rfl rfl k) ?_
  have c6 : Fld Z h5 a1 oS0 "comparator" oS6 .null := ((pr2.other W2 (Or.inr (slot_ne (Or.inr (own_hw hw 35)) (Or.inl (own_hw hw 31)) (by decide) (t := (.object oS23)) (t' := .int) (by decide) (by decide)))).other W5 (Or.inr (slot_ne (Or.inr (own_hw hw 35)) (Or.inl (own_hw hw 33)) (by decide) (t := (.object oS23)) (t' := .int) (by decide) (by decide))))
  have c7 : Exa Z h5 a1 oS0 := (c4.wr W5)
  obtain ⟨T8, h8, X8, e8, W8, st8⟩ := putF X5 hx hZ hown (host := "") (Or.inl (own_hw hw 34)) Via.refl e5 c6 c7 (Or.inr ⟨(own_hw hw 35), rfl, hnm⟩) (own_hw hw 16) (ty := (.object oS23)) (by decide) rfl rfl (g := (mkF m 16 #[oR a1, oR cmp] [(.ref cmp), (.ref a1)])) rfl rfl (hb hby d3_16)
  have sz8 : h8.size = h5.size := W8.size
  have N8 := Fr.snoc X8 N5 (by omega)
  have f8 : Fld Z h8 a1 oS0 "comparator" oS6 (.ref cmp) := c6.same W8
  refine own_go (st' := T8.setTop (mkF m 19 #[oR a1, oR cmp] [])) (st8) ?_
  obtain ⟨fs, hr, hrun, hended, hW, hsame⟩ := X8.leave (v := none) (fun _ => rfl)
  refine ⟨_, _, ?_, hP _ _ hrun hended ⟨_, _, rfl, ?_, ⟨_, rfl⟩, hW, hsame.mono (by decide) (by decide)⟩⟩
  · exact X8.returnOut hx Bd.returns (hb hby d3_19) hr
  · show Qrm3 Z a1 cmp h0 n0 _ T8.heap _
    have c10 : Exa Z h8 a1 oS0 := (c7.wr W8)
    have c11 : Fld Z h8 a1 oS0 "root" oS2 .null := (((pr3.other W2 (Or.inr (slot_ne (Or.inl (own_hw hw 86)) (Or.inl (own_hw hw 31)) (by decide) (t := (.object oS1)) (t' := .int) (by decide) (by decide)))).other W5 (Or.inr (slot_ne (Or.inl (own_hw hw 86)) (Or.inl (own_hw hw 33)) (by decide) (t := (.object oS1)) (t' := .int) (by decide) (by decide)))).other W8 (Or.inr (slot_ne (Or.inl (own_hw hw 86)) (Or.inr (own_hw hw 35)) (by decide) (t := (.object oS1)) (t' := (.object oS23)) (by decide) (by decide))))
    have c12 : Fld Z h8 a1 oS0 "size" "I" (.int (0 : Int32)) := ((f2.other W5 (Or.inr (slot_ne (Or.inl (own_hw hw 31)) (Or.inl (own_hw hw 33)) (by decide) (t := .int) (t' := .int) (by decide) (by decide)))).other W8 (Or.inr (slot_ne (Or.inl (own_hw hw 31)) (Or.inr (own_hw hw 35)) (by decide) (t := .int) (t' := (.object oS23)) (by decide) (by decide))))
    have c13 : Fld Z h8 a1 oS0 "modCount" "I" (.int (0 : Int32)) := (f5.other W8 (Or.inr (slot_ne (Or.inl (own_hw hw 33)) (Or.inr (own_hw hw 35)) (by decide) (t := .int) (t' := (.object oS23)) (by decide) (by decide))))
    have c14 : Fld Z h8 a1 oS0 oS10 oS11 .null := (((pr6.other W2 (Or.inr (slot_ne (Or.inl (own_hw hw 226)) (Or.inl (own_hw hw 31)) (by decide) (t := (.object oS15)) (t' := .int) (by decide) (by decide)))).other W5 (Or.inr (slot_ne (Or.inl (own_hw hw 226)) (Or.inl (own_hw hw 33)) (by decide) (t := (.object oS15)) (t' := .int) (by decide) (by decide)))).other W8 (Or.inr (slot_ne (Or.inl (own_hw hw 226)) (Or.inr (own_hw hw 35)) (by decide) (t := (.object oS15)) (t' := (.object oS23)) (by decide) (by decide))))
    have c15 : Fld Z h8 a1 oS0 "entrySet" oS12 .null := (((pr7.other W2 (Or.inr (slot_ne (Or.inl (own_hw hw 333)) (Or.inl (own_hw hw 31)) (by decide) (t := (.object oS14)) (t' := .int) (by decide) (by decide)))).other W5 (Or.inr (slot_ne (Or.inl (own_hw hw 333)) (Or.inl (own_hw hw 33)) (by decide) (t := (.object oS14)) (t' := .int) (by decide) (by decide)))).other W8 (Or.inr (slot_ne (Or.inl (own_hw hw 333)) (Or.inr (own_hw hw 35)) (by decide) (t := (.object oS14)) (t' := (.object oS23)) (by decide) (by decide))))
    rw [e8]
    exact ⟨rfl, N8, ((((Keep.refl h0 [a1]).wr W2 (Or.inl (List.mem_of_getElem? (i := 0) rfl))).wr W5 (Or.inl (List.mem_of_getElem? (i := 0) rfl))).wr W8 (Or.inl (List.mem_of_getElem? (i := 0) rfl))), c10, f8, c11, c12, c13, c14, c15⟩
theorem pd_2 : parseMethodDescriptor "(Ljava/util/Comparator;)V" = some ⟨[(.object "java/util/Comparator")], none⟩ := by decide +kernel
theorem d1_0 : decode prog_20_method_1_code 0 = .ok (.aload_n 0, 1) := by decide +kernel
theorem d1_1 : decode prog_20_method_1_code 1 = .ok (.invokespecial 1, 3) := by decide +kernel
theorem d1_4 : decode prog_20_method_1_code 4 = .ok (.aload_n 0, 1) := by decide +kernel
theorem d1_5 : decode prog_20_method_1_code 5 = .ok (.new 7, 3) := by decide +kernel
theorem d1_8 : decode prog_20_method_1_code 8 = .ok (.dup, 1) := by decide +kernel
theorem d1_9 : decode prog_20_method_1_code 9 = .ok (.getstatic 9, 3) := by decide +kernel
theorem d1_12 : decode prog_20_method_1_code 12 = .ok (.invokespecial 15, 3) := by decide +kernel
theorem d1_15 : decode prog_20_method_1_code 15 = .ok (.putfield 18, 3) := by decide +kernel
theorem d1_18 : decode prog_20_method_1_code 18 = .ok (.aload_n 0, 1) := by decide +kernel
theorem d1_19 : decode prog_20_method_1_code 19 = .ok (.new 7, 3) := by decide +kernel
theorem d1_22 : decode prog_20_method_1_code 22 = .ok (.dup, 1) := by decide +kernel
theorem d1_23 : decode prog_20_method_1_code 23 = .ok (.getstatic 9, 3) := by decide +kernel
theorem d1_26 : decode prog_20_method_1_code 26 = .ok (.invokespecial 15, 3) := by decide +kernel
theorem d1_29 : decode prog_20_method_1_code 29 = .ok (.putfield 22, 3) := by decide +kernel
theorem d1_32 : decode prog_20_method_1_code 32 = .ok (.return_, 1) := by decide +kernel
theorem pn_1 : plainName "com/example/millwright/millwright/cut/Order$Builder" = true := by first | (simp [plainName, overriddenIn]; done) | decide +kernel
theorem ef_rm1 (m : MethodId) (x0 : Addr) : entryFrame m #[(.ref x0)] 1 = mkF m 0 #[.val (.ref x0)] [] := by first | (simp [entryFrame, mkF, argsToLocals, Value.category]; done) | rfl
def Qrm1 (Z : State) (ab : Addr) (cmp : Addr) (h0 : Heap) (n0 : Nat) (v : Option Value) (h : Heap) (L : List Loc) : Prop := ∃ (ms : Addr) (mc : Addr), (v = none) ∧ (Fr n0 L) ∧ (Keep h0 h [ab]) ∧ (Exa Z h ab "com/example/millwright/millwright/cut/Order$Builder") ∧ (Fld Z h ab "com/example/millwright/millwright/cut/Order$Builder" "stock" "Ljava/util/Map;" (.ref ms)) ∧ (Fld Z h ab "com/example/millwright/millwright/cut/Order$Builder" "counts" "Ljava/util/Map;" (.ref mc)) ∧ (Exa Z h ms "java/util/TreeMap") ∧ (Fld Z h ms "java/util/TreeMap" "comparator" "Ljava/util/Comparator;" (.ref cmp)) ∧ (Fld Z h ms "java/util/TreeMap" "root" "Ljava/util/TreeMap$Entry;" .null) ∧ (Fld Z h ms "java/util/TreeMap" "size" "I" (.int (0 : Int32))) ∧ (Fld Z h ms "java/util/TreeMap" "modCount" "I" (.int (0 : Int32))) ∧ (Fld Z h ms "java/util/TreeMap" "navigableKeySet" "Ljava/util/TreeMap$KeySet;" .null) ∧ (Fld Z h ms "java/util/TreeMap" "entrySet" "Ljava/util/TreeMap$EntrySet;" .null) ∧ (Exa Z h mc "java/util/TreeMap") ∧ (Fld Z h mc "java/util/TreeMap" "comparator" "Ljava/util/Comparator;" (.ref cmp)) ∧ (Fld Z h mc "java/util/TreeMap" "root" "Ljava/util/TreeMap$Entry;" .null) ∧ (Fld Z h mc "java/util/TreeMap" "size" "I" (.int (0 : Int32))) ∧ (Fld Z h mc "java/util/TreeMap" "modCount" "I" (.int (0 : Int32))) ∧ (Fld Z h mc "java/util/TreeMap" "navigableKeySet" "Ljava/util/TreeMap$KeySet;" .null) ∧ (Fld Z h mc "java/util/TreeMap" "entrySet" "Ljava/util/TreeMap$EntrySet;" .null) ∧ (h0.size ≤ ms) ∧ (h0.size ≤ mc) ∧ (own_D ms mc)
set_option maxRecDepth 65536 in
set_option maxHeartbeats 40000000 in
theorem rm1 (l : Launch) (Z : State) (a0 : Array Value) (hw : ∀ d ∈ tables_1, d.before a0 Z = true) (ws : List Jvm.Cond) (ab : Addr) (cmp : Addr) (h0 : Heap) (n0 : Nat) (Z0 : n0 ≤ h0.size) (pr1 : Exa Z h0 ab oS5) (pr2 : Fld Z h0 ab oS5 "stock" oS13 .null) (pr3 : Fld Z h0 ab oS5 "counts" oS13 .null) (pr4 : Sta Z h0 oS5 oS29 oS6 (.ref cmp)) (pr5 : n0 ≤ ab) :
    MetFree l oM51 (head1 (Jvm.Cond.code oM51 prog_20_method_1_code 1 none :: ws) ({ frames := 3, cells := 2, slots := 18, locals := 39 } : Room)) (fun a U => a = #[(.ref ab)] ∧ Z.Warmed39 U.vm ∧ U.heap = h0) (fun _ _ _ _ _ => True) (fun _ U o U' => ∃ v L, o = .returned v ∧ Qrm1 Z ab cmp h0 n0 v U'.heap L ∧ FrameEnd U o U' L ({ frames := 3, cells := 2, slots := 18, locals := 39 } : Room).cells ({ frames := 3, cells := 2, slots := 18, locals := 39 } : Room).slots) := by
  refine MetFree.of_bodySF (plainFor_of_name pn_1) hisR ?_
  intro p e s m args below meth c s₁ Bd hml0 hP0 hK
  obtain ⟨rfl, hZ, hh⟩ := hP0
  have hx := Bd.exec
  have hby := Bd.bytes
  have hml : c.maxLocals = 1 := hml0
  have hown : s.vm.findClass oS5 = some m.cls := findClass_of_methodNamed Bd.named
  have hnm := (name_of_methodNamed Bd.named Bd.method).1
  have X0 : Stand p l e ({ frames := 3, cells := 2, slots := 18, locals := 39 } : Room) s m #[(.ref ab)] below meth c s₁ [] 0 0 := Stand.of_body Bd
  have e0 : s₁.heap = h0 := by rw [← hh, Bd.state]; rfl
  have N0 := Fr.nil n0
  refine own_fin (st' := s₁.setTop (mkF m 0 #[oR ab] [])) (fun _ k => castTop (ef_rm1 m ab) k) (fun P hP => ?_)
  have lt_ab : @LT.lt Nat _ ab h0.size := pr1.lt
  refine own_go (st' := s₁.setTop (mkF m 1 #[oR ab] [(.ref ab)])) (fun _ k => XS.aloadN X0.here hx rfl (hb hby d1_0) rfl rfl k) ?_
  obtain ⟨T1, X1, e1, st1⟩ := initO X0 hx hZ hown (own_hw hw 12) (own_hw hw 13) (own_hw hw 14) e0 (g := (mkF m 1 #[oR ab] [(.ref ab)])) rfl (by rw [hml]; rfl) rfl (hb hby d1_1) (by decide) (W := 0) (by show 2 * 0 + _ ≤ _; exact Nat.le_of_eq rfl) (by decide)
  refine own_go (st' := T1.setTop (mkF m 4 #[oR ab] [])) (st1) ?_
  refine own_go (st' := T1.setTop (mkF m 5 #[oR ab] [(.ref ab)])) (fun _ k => XS.aloadN X1.here hx rfl (hb hby d1_4) rfl rfl k) ?_
  obtain ⟨T2, h2, X2, e2, E2, A2, D2, -, st2⟩ := newO X1 hx hZ hown (own_hw hw 15) (own_hw hw 16) (own_hw hw 17) e1 (g := (mkF m 5 #[oR ab] [(.ref ab)])) rfl (hb hby d1_5) (by decide) (by decide)
  obtain ⟨b2, g2⟩ : ∃ z, z = h0.size := ⟨_, rfl⟩
  rw [← g2] at A2 D2 st2
  have sz2 : h0.size ≤ h2.size := E2.1
  have lt2 : @LT.lt Nat _ b2 h2.size := A2.lt
  have f3 : Fld Z h2 b2 oS0 "size" "I" (.int (0 : Int32)) := D2 (Or.inl (own_hw hw 31)) (ty := .int) (by decide)
  have f4 : Fld Z h2 b2 oS0 "modCount" "I" (.int (0 : Int32)) := D2 (Or.inl (own_hw hw 33)) (ty := .int) (by decide)
  have f5 : Fld Z h2 b2 oS0 "comparator" oS6 .null := D2 (Or.inr (own_hw hw 35)) (ty := (.object oS23)) (by decide)
  have f6 : Fld Z h2 b2 oS0 "root" oS2 .null := D2 (Or.inl (own_hw hw 86)) (ty := (.object oS1)) (by decide)
  have f7 : Fld Z h2 b2 oS0 oS10 oS11 .null := D2 (Or.inl (own_hw hw 226)) (ty := (.object oS15)) (by decide)
  have f8 : Fld Z h2 b2 oS0 "entrySet" oS12 .null := D2 (Or.inl (own_hw hw 333)) (ty := (.object oS14)) (by decide)
  refine own_go (st' := T2.setTop (mkF m 8 #[oR ab] [(.ref b2), (.ref ab)])) (st2) ?_
  refine own_go (st' := T2.setTop (mkF m 9 #[oR ab] [(.ref b2), (.ref b2), (.ref ab)])) (fun _ k => XS.dup X2.here hx rfl (hb hby d1_8) rfl rfl k) ?_
  have c9 : Sta Z h2 oS5 oS29 oS6 (.ref cmp) := (pr4.ext E2)
  obtain ⟨T10, X10, e10, st10⟩ := getS2 X2 hx hZ hown (host := "") (Or.inl (own_hw hw 18)) Via.refl e2 c9 (g := (mkF m 9 #[oR ab] [(.ref b2), (.ref b2), (.ref ab)])) rfl (hb hby d1_9)
  refine own_go (st' := T10.setTop (mkF m 12 #[oR ab] [(.ref cmp), (.ref b2), (.ref b2), (.ref ab)])) (st10) ?_
  obtain ⟨_, _, ⟨T11, LC11, kC11, nC11⟩, -, X11, ⟨Lc11, hQ11, lq11, yq11, zq11⟩, st11⟩ := X10.specialBack hx (y := oM14) rfl hown (mvT hZ (own_hw hw 20)) (mvT hZ (own_hw hw 21)) (mvT hZ (own_hw hw 22)) (by decide) (backOf (W := 2) (rm3 l Z a0 hw [] b2 cmp h2 n0 (by omega) A2 f5 f6 f3 f4 f7 f8 (by omega)) hZ (own_hw hw 22) (own_hw hw 17) (by decide) (by decide)) (g := (mkF m 12 #[oR ab] [(.ref cmp), (.ref b2), (.ref b2), (.ref ab)])) rfl (by rw [hml]; rfl) (Steps.refl _) (a := b2) (argsL := [(.ref cmp)]) (rest := [(.ref b2), (.ref ab)]) (lenOf pd_2 rfl) rfl (by show 2 * 0 + _ ≤ _; exact Nat.le_of_eq rfl) (hb hby d1_12) (fun _ _ => ⟨rfl, e10, (by decide : 1 + 0 ≤ _), (by decide : 9 + 0 ≤ _)⟩)
  dsimp only [Pt.U, Pt.locs, Pt.cells, Pt.slots] at X11 lq11 yq11 zq11 st11 hQ11
  subst lq11 yq11 zq11
  obtain ⟨h11, e11⟩ : ∃ z, T11.heap = z := ⟨_, rfl⟩
  rw [e11] at hQ11
  obtain ⟨rfl, Nq11, K11, g11_0, g11_1, g11_2, g11_3, g11_4, g11_5, g11_6⟩ := hQ11
  have sz11 : h2.size ≤ h11.size := K11.1
  have N11 := Fr.app N0 Nq11
  have lt11_1 : @LT.lt Nat _ b2 h11.size := g11_0.lt
  refine own_go (st' := T11.setTop (mkF m 15 #[oR ab] [(.ref b2), (.ref ab)])) (fun _ k => st11.trans k) ?_
  have c12 : Fld Z h11 ab oS5 "stock" oS13 .null := ((pr2.ext E2).keep K11 (ninS own_nq nin0))
  have c13 : Exa Z h11 ab oS5 := ((pr1.ext E2).keep K11)
  obtain ⟨T14, h14, X14, e14, W14, st14⟩ := putF X11 hx hZ hown (host := "") (Or.inl (own_hw hw 36)) Via.refl e11 c12 c13 (Or.inr ⟨(own_hw hw 37), rfl, hnm⟩) (own_hw hw 7) (ty := (.object oS27)) (by decide) rfl rfl (g := (mkF m 15 #[oR ab] [(.ref b2), (.ref ab)])) rfl rfl (hb hby d1_15)
  have sz14 : h14.size = h11.size := W14.size
  have N14 := Fr.snoc X14 N11 (by omega)
  have f14 : Fld Z h14 ab oS5 "stock" oS13 (.ref b2) := c12.same W14
  refine own_go (st' := T14.setTop (mkF m 18 #[oR ab] [])) (st14) ?_
  refine own_go (st' := T14.setTop (mkF m 19 #[oR ab] [(.ref ab)])) (fun _ k => XS.aloadN X14.here hx rfl (hb hby d1_18) rfl rfl k) ?_
  obtain ⟨T15, h15, X15, e15, E15, A15, D15, -, st15⟩ := newO X14 hx hZ hown (own_hw hw 15) (own_hw hw 16) (own_hw hw 17) e14 (g := (mkF m 19 #[oR ab] [(.ref ab)])) rfl (hb hby d1_19) (by decide) (by decide)
  obtain ⟨b15, g15⟩ : ∃ z, z = h14.size := ⟨_, rfl⟩
  rw [← g15] at A15 D15 st15
  have sz15 : h14.size ≤ h15.size := E15.1
  have lt15 : @LT.lt Nat _ b15 h15.size := A15.lt
  have f16 : Fld Z h15 b15 oS0 "size" "I" (.int (0 : Int32)) := D15 (Or.inl (own_hw hw 31)) (ty := .int) (by decide)
  have f17 : Fld Z h15 b15 oS0 "modCount" "I" (.int (0 : Int32)) := D15 (Or.inl (own_hw hw 33)) (ty := .int) (by decide)
  have f18 : Fld Z h15 b15 oS0 "comparator" oS6 .null := D15 (Or.inr (own_hw hw 35)) (ty := (.object oS23)) (by decide)
  have f19 : Fld Z h15 b15 oS0 "root" oS2 .null := D15 (Or.inl (own_hw hw 86)) (ty := (.object oS1)) (by decide)
  have f20 : Fld Z h15 b15 oS0 oS10 oS11 .null := D15 (Or.inl (own_hw hw 226)) (ty := (.object oS15)) (by decide)
  have f21 : Fld Z h15 b15 oS0 "entrySet" oS12 .null := D15 (Or.inl (own_hw hw 333)) (ty := (.object oS14)) (by decide)
  refine own_go (st' := T15.setTop (mkF m 22 #[oR ab] [(.ref b15), (.ref ab)])) (st15) ?_
  refine own_go (st' := T15.setTop (mkF m 23 #[oR ab] [(.ref b15), (.ref b15), (.ref ab)])) (fun _ k => XS.dup X15.here hx rfl (hb hby d1_22) rfl rfl k) ?_
  have c22 : Sta Z h15 oS5 oS29 oS6 (.ref cmp) := (((own_sta_keep c9 K11 (allS (P := fun x => ∀ c : Cell, h2[x]? = some c → c.vm.isStatics = false) (own_pl_exa A2) all0)).wr W14).ext E15)
  obtain ⟨T23, X23, e23, st23⟩ := getS2 X15 hx hZ hown (host := "") (Or.inl (own_hw hw 18)) Via.refl e15 c22 (g := (mkF m 23 #[oR ab] [(.ref b15), (.ref b15), (.ref ab)])) rfl (hb hby d1_23)
  refine own_go (st' := T23.setTop (mkF m 26 #[oR ab] [(.ref cmp), (.ref b15), (.ref b15), (.ref ab)])) (st23) ?_
  obtain ⟨_, _, ⟨T24, LC24, kC24, nC24⟩, -, X24, ⟨Lc24, hQ24, lq24, yq24, zq24⟩, st24⟩ := X23.specialBack hx (y := oM14) rfl hown (mvT hZ (own_hw hw 20)) (mvT hZ (own_hw hw 21)) (mvT hZ (own_hw hw 22)) (by decide) (backOf (W := 2) (rm3 l Z a0 hw [] b15 cmp h15 n0 (by omega) A15 f18 f19 f16 f17 f20 f21 (by omega)) hZ (own_hw hw 22) (own_hw hw 17) (by decide) (by decide)) (g := (mkF m 26 #[oR ab] [(.ref cmp), (.ref b15), (.ref b15), (.ref ab)])) rfl (by rw [hml]; rfl) (Steps.refl _) (a := b15) (argsL := [(.ref cmp)]) (rest := [(.ref b15), (.ref ab)]) (lenOf pd_2 rfl) rfl (by show 2 * 0 + _ ≤ _; exact Nat.le_of_eq rfl) (hb hby d1_26) (fun _ _ => ⟨rfl, e23, (by decide : 2 + 0 ≤ _), (by decide : 18 + 0 ≤ _)⟩)
  dsimp only [Pt.U, Pt.locs, Pt.cells, Pt.slots] at X24 lq24 yq24 zq24 st24 hQ24
  subst lq24 yq24 zq24
  obtain ⟨h24, e24⟩ : ∃ z, T24.heap = z := ⟨_, rfl⟩
  rw [e24] at hQ24
  obtain ⟨rfl, Nq24, K24, g24_0, g24_1, g24_2, g24_3, g24_4, g24_5, g24_6⟩ := hQ24
  have sz24 : h15.size ≤ h24.size := K24.1
  have N24 := Fr.app N14 Nq24
  have lt24_1 : @LT.lt Nat _ b15 h24.size := g24_0.lt
  refine own_go (st' := T24.setTop (mkF m 29 #[oR ab] [(.ref b15), (.ref ab)])) (fun _ k => st24.trans k) ?_
  have c25 : Fld Z h24 ab oS5 "counts" oS13 .null := (((((pr3.ext E2).keep K11 (ninS own_nq nin0)).other W14 (Or.inr (slot_ne (Or.inr (own_hw hw 39)) (Or.inr (own_hw hw 37)) (by decide) (t := (.object oS27)) (t' := (.object oS27)) (by decide) (by decide)))).ext E15).keep K24 (ninS own_nq nin0))
  have c26 : Exa Z h24 ab oS5 := (((c13.wr W14).ext E15).keep K24)
  obtain ⟨T27, h27, X27, e27, W27, st27⟩ := putF X24 hx hZ hown (host := "") (Or.inl (own_hw hw 38)) Via.refl e24 c25 c26 (Or.inr ⟨(own_hw hw 39), rfl, hnm⟩) (own_hw hw 7) (ty := (.object oS27)) (by decide) rfl rfl (g := (mkF m 29 #[oR ab] [(.ref b15), (.ref ab)])) rfl rfl (hb hby d1_29)
  have sz27 : h27.size = h24.size := W27.size
  have N27 := Fr.snoc X27 N24 (by omega)
  have f27 : Fld Z h27 ab oS5 "counts" oS13 (.ref b15) := c25.same W27
  refine own_go (st' := T27.setTop (mkF m 32 #[oR ab] [])) (st27) ?_
  obtain ⟨fs, hr, hrun, hended, hW, hsame⟩ := X27.leave (v := none) (fun _ => rfl)
  refine ⟨_, _, ?_, hP _ _ hrun hended ⟨_, _, rfl, ?_, ⟨_, rfl⟩, hW, hsame.mono (by decide) (by decide)⟩⟩
  · exact X27.returnOut hx Bd.returns (hb hby d1_32) hr
  · show Qrm1 Z ab cmp h0 n0 _ T27.heap _
    have c29 : Exa Z h27 ab oS5 := (c26.wr W27)
    have c30 : Fld Z h27 ab oS5 "stock" oS13 (.ref b2) := (((f14.ext E15).keep K24 (ninS own_nq nin0)).other W27 (Or.inr (slot_ne (Or.inr (own_hw hw 37)) (Or.inr (own_hw hw 39)) (by decide) (t := (.object oS27)) (t' := (.object oS27)) (by decide) (by decide))))
    have c31 : Exa Z h27 b2 oS0 := ((((g11_0.wr W14).ext E15).keep K24).wr W27)
    have c32 : Fld Z h27 b2 oS0 "comparator" oS6 (.ref cmp) := ((((g11_1.other W14 (Or.inl own_nq)).ext E15).keep K24 (ninS own_nq nin0)).other W27 (Or.inl own_nq))
    have c33 : Fld Z h27 b2 oS0 "root" oS2 .null := ((((g11_2.other W14 (Or.inl own_nq)).ext E15).keep K24 (ninS own_nq nin0)).other W27 (Or.inl own_nq))
    have c34 : Fld Z h27 b2 oS0 "size" "I" (.int (0 : Int32)) := ((((g11_3.other W14 (Or.inl own_nq)).ext E15).keep K24 (ninS own_nq nin0)).other W27 (Or.inl own_nq))
    have c35 : Fld Z h27 b2 oS0 "modCount" "I" (.int (0 : Int32)) := ((((g11_4.other W14 (Or.inl own_nq)).ext E15).keep K24 (ninS own_nq nin0)).other W27 (Or.inl own_nq))
    have c36 : Fld Z h27 b2 oS0 oS10 oS11 .null := ((((g11_5.other W14 (Or.inl own_nq)).ext E15).keep K24 (ninS own_nq nin0)).other W27 (Or.inl own_nq))
    have c37 : Fld Z h27 b2 oS0 "entrySet" oS12 .null := ((((g11_6.other W14 (Or.inl own_nq)).ext E15).keep K24 (ninS own_nq nin0)).other W27 (Or.inl own_nq))
    have c38 : Exa Z h27 b15 oS0 := (g24_0.wr W27)
    have c39 : Fld Z h27 b15 oS0 "comparator" oS6 (.ref cmp) := (g24_1.other W27 (Or.inl own_nq))
    have c40 : Fld Z h27 b15 oS0 "root" oS2 .null := (g24_2.other W27 (Or.inl own_nq))
    have c41 : Fld Z h27 b15 oS0 "size" "I" (.int (0 : Int32)) := (g24_3.other W27 (Or.inl own_nq))
    have c42 : Fld Z h27 b15 oS0 "modCount" "I" (.int (0 : Int32)) := (g24_4.other W27 (Or.inl own_nq))
    have c43 : Fld Z h27 b15 oS0 oS10 oS11 .null := (g24_5.other W27 (Or.inl own_nq))
    have c44 : Fld Z h27 b15 oS0 "entrySet" oS12 .null := (g24_6.other W27 (Or.inl own_nq))
    rw [e27]
    exact ⟨b2, b15, rfl, N27, (((((((Keep.refl h0 [ab]).ext E2).trans K11 (allS (P := fun x => x ∈ [ab] ∨ h0.size ≤ x) (Or.inr (by omega)) all0)).wr W14 (Or.inl (List.mem_of_getElem? (i := 0) rfl))).ext E15).trans K24 (allS (P := fun x => x ∈ [ab] ∨ h0.size ≤ x) (Or.inr (by omega)) all0)).wr W27 (Or.inl (List.mem_of_getElem? (i := 0) rfl))), c29, c30, f27, c31, c32, c33, c34, c35, c36, c37, c38, c39, c40, c41, c42, c43, c44, (by omega), (by omega), own_nr⟩
theorem d24_0 : decode jdk_35_method_42_code 0 = .ok (.lload_n 0, 1) := by decide +kernel
theorem d24_1 : decode jdk_35_method_42_code 1 = .ok (.lload_n 2, 1) := by decide +kernel
theorem d24_2 : decode jdk_35_method_42_code 2 = .ok (.lcmp, 1) := by decide +kernel
theorem d24_3 : decode jdk_35_method_42_code 3 = .ok (.ifCond .ge 7, 3) := by decide +kernel
theorem d24_10 : decode jdk_35_method_42_code 10 = .ok (.lload_n 0, 1) := by decide +kernel
theorem d24_11 : decode jdk_35_method_42_code 11 = .ok (.lload_n 2, 1) := by decide +kernel
theorem d24_12 : decode jdk_35_method_42_code 12 = .ok (.lcmp, 1) := by decide +kernel
theorem d24_13 : decode jdk_35_method_42_code 13 = .ok (.ifCond .ne 7, 3) := by decide +kernel
theorem d24_16 : decode jdk_35_method_42_code 16 = .ok (.iconst 0, 1) := by decide +kernel
theorem d24_17 : decode jdk_35_method_42_code 17 = .ok (.goto 4, 3) := by decide +kernel
theorem d24_21 : decode jdk_35_method_42_code 21 = .ok (.ireturn, 1) := by decide +kernel
theorem pn_24 : plainName "java/lang/Long" = true := by first | (simp [plainName, overriddenIn]; done) | decide +kernel
theorem ef_rm24 (m : MethodId) (x0 : Int64) (x1 : Int64) : entryFrame m #[(.long x0), (.long x1)] 4 = mkF m 0 #[.val (.long x0), .second, .val (.long x1), .second] [] := by first | (simp [entryFrame, mkF, argsToLocals, Value.category]; done) | rfl
def Qrm24 (Z : State) (q1 : Int64) (h0 : Heap) (n0 : Nat) (v : Option Value) (h : Heap) (L : List Loc) : Prop := (v = some (.int (0 : Int32))) ∧ (Fr n0 L) ∧ (h = h0)
set_option maxRecDepth 65536 in
set_option maxHeartbeats 40000000 in
theorem rm24 (l : Launch) (Z : State) (a0 : Array Value) (hw : ∀ d ∈ tables_1, d.before a0 Z = true) (ws : List Jvm.Cond) (q1 : Int64) (h0 : Heap) (n0 : Nat) (Z0 : n0 ≤ h0.size)  :
    MetFree l oM52 (head1 (Jvm.Cond.code oM52 jdk_35_method_42_code 4 (some .int) :: ws) ({ frames := 0, cells := 0, slots := 0, locals := 0 } : Room)) (fun a U => a = #[(.long q1), (.long q1)] ∧ Z.Warmed39 U.vm ∧ U.heap = h0) (fun _ _ _ _ _ => True) (fun _ U o U' => ∃ v L, o = .returned v ∧ Qrm24 Z q1 h0 n0 v U'.heap L ∧ FrameEnd U o U' L ({ frames := 0, cells := 0, slots := 0, locals := 0 } : Room).cells ({ frames := 0, cells := 0, slots := 0, locals := 0 } : Room).slots) := by
  refine MetFree.of_bodySF (plainFor_of_name pn_24) hisR ?_
  intro p e s m args below meth c s₁ Bd hml0 hP0 hK
  obtain ⟨rfl, hZ, hh⟩ := hP0
  have hx := Bd.exec
  have hby := Bd.bytes
  have hml : c.maxLocals = 4 := hml0
  have hown : s.vm.findClass oS3 = some m.cls := findClass_of_methodNamed Bd.named
  have hnm := (name_of_methodNamed Bd.named Bd.method).1
  have X0 : Stand p l e ({ frames := 0, cells := 0, slots := 0, locals := 0 } : Room) s m #[(.long q1), (.long q1)] below meth c s₁ [] 0 0 := Stand.of_body Bd
  have e0 : s₁.heap = h0 := by rw [← hh, Bd.state]; rfl
  have N0 := Fr.nil n0
  refine own_fin (st' := s₁.setTop (mkF m 0 #[oj q1, .second, oj q1, .second] [])) (fun _ k => castTop (ef_rm24 m q1 q1) k) (fun P hP => ?_)
  refine own_go (st' := s₁.setTop (mkF m 1 #[oj q1, .second, oj q1, .second] [(.long q1)])) (fun _ k => XS.lloadN X0.here hx rfl (hb hby d24_0) rfl k) ?_
  refine own_go (st' := s₁.setTop (mkF m 2 #[oj q1, .second, oj q1, .second] [(.long q1), (.long q1)])) (fun _ k => XS.lloadN X0.here hx rfl (hb hby d24_1) rfl k) ?_
  refine own_go (st' := s₁.setTop (mkF m 3 #[oj q1, .second, oj q1, .second] [(.int (lcmpW q1 q1))])) (fun _ k => XS.lcmp X0.here hx rfl (hb hby d24_2) rfl k) ?_
  have hc1 : ¬ (q1 < q1) := (own_irrL q1)
  refine own_go (st' := s₁.setTop (mkF m 10 #[oj q1, .second, oj q1, .second] [])) (fun _ k => XS.ifYes X0.here hx rfl (pc0 := 3) (pc' := 10) rfl (hb hby d24_3) rfl ((if0 _ _).trans (flt (fun q_ => hc1 ((lw_lt q1 q1).mp q_))).2.1) (by decide) (by decide) k) ?_
  refine own_go (st' := s₁.setTop (mkF m 11 #[oj q1, .second, oj q1, .second] [(.long q1)])) (fun _ k => XS.lloadN X0.here hx rfl (hb hby d24_10) rfl k) ?_
  refine own_go (st' := s₁.setTop (mkF m 12 #[oj q1, .second, oj q1, .second] [(.long q1), (.long q1)])) (fun _ k => XS.lloadN X0.here hx rfl (hb hby d24_11) rfl k) ?_
  refine own_go (st' := s₁.setTop (mkF m 13 #[oj q1, .second, oj q1, .second] [(.int (lcmpW q1 q1))])) (fun _ k => XS.lcmp X0.here hx rfl (hb hby d24_12) rfl k) ?_
  have hc2 : q1 = q1 := rfl
  refine own_go (st' := s₁.setTop (mkF m 16 #[oj q1, .second, oj q1, .second] [])) (fun _ k => XS.ifNo X0.here hx rfl (hb hby d24_13) rfl ((if0 _ _).trans (teq ((lw_eq q1 q1).mpr hc2)).2) k) ?_
  refine own_go (st' := s₁.setTop (mkF m 17 #[oj q1, .second, oj q1, .second] [(.int (0 : Int32))])) (fun _ k => XS.iconst X0.here hx rfl (hb hby d24_16) k) ?_
  refine own_go (st' := s₁.setTop (mkF m 21 #[oj q1, .second, oj q1, .second] [(.int (0 : Int32))])) (fun _ k => XS.goto X0.here hx rfl (pc0 := 17) (pc' := 21) rfl (hb hby d24_17) (by decide) (by decide) k) ?_
  obtain ⟨fs, hr, hrun, hended, hW, hsame⟩ := X0.leave (v := some (.int (0 : Int32))) (fun h => by rw [Bd.returns] at h; cases h)
  refine ⟨_, _, ?_, hP _ _ hrun hended ⟨_, _, rfl, ?_, ⟨_, rfl⟩, hW, hsame.mono (by decide) (by decide)⟩⟩
  · exact retOut X0 hx Bd.returns rfl (Or.inl ⟨rfl, Or.inl rfl, _, rfl⟩) (hb hby d24_21) hr
  · show Qrm24 Z q1 h0 n0 _ s₁.heap _
    rw [e0]
    exact ⟨rfl, N0, rfl⟩
theorem pd_3 : parseMethodDescriptor "(JJ)I" = some ⟨[.long, .long], some .int⟩ := by decide +kernel
theorem d23_0 : decode jdk_35_method_41_code 0 = .ok (.aload_n 0, 1) := by decide +kernel
theorem d23_1 : decode jdk_35_method_41_code 1 = .ok (.getfield 273, 3) := by decide +kernel
theorem d23_4 : decode jdk_35_method_41_code 4 = .ok (.aload_n 1, 1) := by decide +kernel
theorem d23_5 : decode jdk_35_method_41_code 5 = .ok (.getfield 273, 3) := by decide +kernel
theorem d23_8 : decode jdk_35_method_41_code 8 = .ok (.invokestatic 302, 3) := by decide +kernel
theorem d23_11 : decode jdk_35_method_41_code 11 = .ok (.ireturn, 1) := by decide +kernel
theorem pn_23 : plainName "java/lang/Long" = true := by first | (simp [plainName, overriddenIn]; done) | decide +kernel
theorem ef_rm23 (m : MethodId) (x0 : Addr) (x1 : Addr) : entryFrame m #[(.ref x0), (.ref x1)] 2 = mkF m 0 #[.val (.ref x0), .val (.ref x1)] [] := by first | (simp [entryFrame, mkF, argsToLocals, Value.category]; done) | rfl
def Qrm23 (Z : State) (ak : Addr) (q1 : Int64) (h0 : Heap) (n0 : Nat) (v : Option Value) (h : Heap) (L : List Loc) : Prop := (v = some (.int (0 : Int32))) ∧ (Fr n0 L) ∧ (h = h0)
set_option maxRecDepth 65536 in
set_option maxHeartbeats 40000000 in
theorem rm23 (l : Launch) (Z : State) (a0 : Array Value) (hw : ∀ d ∈ tables_1, d.before a0 Z = true) (ws : List Jvm.Cond) (ak : Addr) (q1 : Int64) (h0 : Heap) (n0 : Nat) (Z0 : n0 ≤ h0.size) (pr1 : Exa Z h0 ak oS3) (pr2 : Fld Z h0 ak oS3 "value" "J" (.long q1)) :
    MetFree l oM15 (head1 (Jvm.Cond.code oM15 jdk_35_method_41_code 2 (some .int) :: ws) ({ frames := 1, cells := 0, slots := 0, locals := 15 } : Room)) (fun a U => a = #[(.ref ak), (.ref ak)] ∧ Z.Warmed39 U.vm ∧ U.heap = h0) (fun _ _ _ _ _ => True) (fun _ U o U' => ∃ v L, o = .returned v ∧ Qrm23 Z ak q1 h0 n0 v U'.heap L ∧ FrameEnd U o U' L ({ frames := 1, cells := 0, slots := 0, locals := 15 } : Room).cells ({ frames := 1, cells := 0, slots := 0, locals := 15 } : Room).slots) := by
  refine MetFree.of_bodySF (plainFor_of_name pn_23) hisR ?_
  intro p e s m args below meth c s₁ Bd hml0 hP0 hK
  obtain ⟨rfl, hZ, hh⟩ := hP0
  have hx := Bd.exec
  have hby := Bd.bytes
  have hml : c.maxLocals = 2 := hml0
  have hown : s.vm.findClass oS3 = some m.cls := findClass_of_methodNamed Bd.named
  have hnm := (name_of_methodNamed Bd.named Bd.method).1
  have X0 : Stand p l e ({ frames := 1, cells := 0, slots := 0, locals := 15 } : Room) s m #[(.ref ak), (.ref ak)] below meth c s₁ [] 0 0 := Stand.of_body Bd
  have e0 : s₁.heap = h0 := by rw [← hh, Bd.state]; rfl
  have N0 := Fr.nil n0
  refine own_fin (st' := s₁.setTop (mkF m 0 #[oR ak, oR ak] [])) (fun _ k => castTop (ef_rm23 m ak ak) k) (fun P hP => ?_)
  have lt_ak : @LT.lt Nat _ ak h0.size := pr1.lt
  refine own_go (st' := s₁.setTop (mkF m 1 #[oR ak, oR ak] [(.ref ak)])) (fun _ k => XS.aloadN X0.here hx rfl (hb hby d23_0) rfl rfl k) ?_
  obtain ⟨T1, X1, e1, st1⟩ := getF X0 hx hZ hown (host := "") (Or.inl (own_hw hw 102)) Via.refl e0 pr2 (g := (mkF m 1 #[oR ak, oR ak] [(.ref ak)])) rfl rfl (hb hby d23_1)
  refine own_go (st' := T1.setTop (mkF m 4 #[oR ak, oR ak] [(.long q1)])) (st1) ?_
  refine own_go (st' := T1.setTop (mkF m 5 #[oR ak, oR ak] [(.ref ak), (.long q1)])) (fun _ k => XS.aloadN X1.here hx rfl (hb hby d23_4) rfl rfl k) ?_
  obtain ⟨T2, X2, e2, st2⟩ := getF X1 hx hZ hown (host := "") (Or.inl (own_hw hw 102)) Via.refl e1 pr2 (g := (mkF m 5 #[oR ak, oR ak] [(.ref ak), (.long q1)])) rfl rfl (hb hby d23_5)
  refine own_go (st' := T2.setTop (mkF m 8 #[oR ak, oR ak] [(.long q1), (.long q1)])) (st2) ?_
  obtain ⟨_, _, ⟨T3, LC3, kC3, nC3⟩, -, X3, ⟨Lc3, hQ3, lq3, yq3, zq3⟩, st3⟩ := Jvm.LawKit.callS X2 hx (y := oM52) hown (mvT hZ (own_hw hw 169)) (mvT hZ (own_hw hw 170)) (mvT hZ (own_hw hw 53)) (mvT hZ (own_hw hw 171)) (by decide) (backOf (W := 0) (rm24 l Z a0 hw [] q1 h0 n0 (by omega) ) hZ (own_hw hw 171) (own_hw hw 53) (by decide) (by decide)) (g := (mkF m 8 #[oR ak, oR ak] [(.long q1), (.long q1)])) rfl (by rw [hml]; rfl) (argsL := [(.long q1), (.long q1)]) (rest := []) (lenOf pd_3 rfl) rfl (by show 2 * 0 + _ ≤ _; exact Nat.le_of_eq rfl) (hb hby d23_8) (fun _ _ => ⟨rfl, e2, (by decide : 0 + 0 ≤ _), (by decide : 0 + 0 ≤ _)⟩)
  dsimp only [Pt.U, Pt.locs, Pt.cells, Pt.slots] at X3 lq3 yq3 zq3 st3 hQ3
  subst lq3 yq3 zq3
  obtain ⟨rfl, Nq3, eq3⟩ := hQ3
  have N3 := Fr.app N0 Nq3
  refine own_go (st' := T3.setTop (mkF m 11 #[oR ak, oR ak] [(.int (0 : Int32))])) (fun t k => st3 t k) ?_
  obtain ⟨fs, hr, hrun, hended, hW, hsame⟩ := X3.leave (v := some (.int (0 : Int32))) (fun h => by rw [Bd.returns] at h; cases h)
  refine ⟨_, _, ?_, hP _ _ hrun hended ⟨_, _, rfl, ?_, ⟨_, rfl⟩, hW, hsame.mono (by decide) (by decide)⟩⟩
  · exact retOut X3 hx Bd.returns rfl (Or.inl ⟨rfl, Or.inl rfl, _, rfl⟩) (hb hby d23_11) hr
  · show Qrm23 Z ak q1 h0 n0 _ T3.heap _
    rw [eq3]
    exact ⟨rfl, N3, rfl⟩
theorem pd_4 : parseMethodDescriptor "(Ljava/lang/Long;)I" = some ⟨[(.object "java/lang/Long")], some .int⟩ := by decide +kernel
theorem d22_0 : decode jdk_35_method_64_code 0 = .ok (.aload_n 0, 1) := by decide +kernel
theorem d22_1 : decode jdk_35_method_64_code 1 = .ok (.aload_n 1, 1) := by decide +kernel
theorem d22_2 : decode jdk_35_method_64_code 2 = .ok (.checkcast 1, 3) := by decide +kernel
theorem d22_5 : decode jdk_35_method_64_code 5 = .ok (.invokevirtual 343, 3) := by decide +kernel
theorem d22_8 : decode jdk_35_method_64_code 8 = .ok (.ireturn, 1) := by decide +kernel
theorem pn_22 : plainName "java/lang/Long" = true := by first | (simp [plainName, overriddenIn]; done) | decide +kernel
theorem ef_rm22 (m : MethodId) (x0 : Addr) (x1 : Addr) : entryFrame m #[(.ref x0), (.ref x1)] 2 = mkF m 0 #[.val (.ref x0), .val (.ref x1)] [] := by first | (simp [entryFrame, mkF, argsToLocals, Value.category]; done) | rfl
def Qrm22 (Z : State) (ak : Addr) (q1 : Int64) (h0 : Heap) (n0 : Nat) (v : Option Value) (h : Heap) (L : List Loc) : Prop := (v = some (.int (0 : Int32))) ∧ (Fr n0 L) ∧ (h = h0)
set_option maxRecDepth 65536 in
set_option maxHeartbeats 40000000 in
theorem rm22 (l : Launch) (Z : State) (a0 : Array Value) (hw : ∀ d ∈ tables_1, d.before a0 Z = true) (ws : List Jvm.Cond) (ak : Addr) (q1 : Int64) (h0 : Heap) (n0 : Nat) (Z0 : n0 ≤ h0.size) (pr1 : Exa Z h0 ak oS3) (pr2 : Fld Z h0 ak oS3 "value" "J" (.long q1)) :
    MetFree l oM53 (head1 (Jvm.Cond.code oM53 jdk_35_method_64_code 2 (some .int) :: ws) ({ frames := 2, cells := 0, slots := 0, locals := 28 } : Room)) (fun a U => a = #[(.ref ak), (.ref ak)] ∧ Z.Warmed39 U.vm ∧ U.heap = h0) (fun _ _ _ _ _ => True) (fun _ U o U' => ∃ v L, o = .returned v ∧ Qrm22 Z ak q1 h0 n0 v U'.heap L ∧ FrameEnd U o U' L ({ frames := 2, cells := 0, slots := 0, locals := 28 } : Room).cells ({ frames := 2, cells := 0, slots := 0, locals := 28 } : Room).slots) := by
  refine MetFree.of_bodySF (plainFor_of_name pn_22) hisR ?_
  intro p e s m args below meth c s₁ Bd hml0 hP0 hK
  obtain ⟨rfl, hZ, hh⟩ := hP0
  have hx := Bd.exec
  have hby := Bd.bytes
  have hml : c.maxLocals = 2 := hml0
  have hown : s.vm.findClass oS3 = some m.cls := findClass_of_methodNamed Bd.named
  have hnm := (name_of_methodNamed Bd.named Bd.method).1
  have X0 : Stand p l e ({ frames := 2, cells := 0, slots := 0, locals := 28 } : Room) s m #[(.ref ak), (.ref ak)] below meth c s₁ [] 0 0 := Stand.of_body Bd
  have e0 : s₁.heap = h0 := by rw [← hh, Bd.state]; rfl
  have N0 := Fr.nil n0
  refine own_fin (st' := s₁.setTop (mkF m 0 #[oR ak, oR ak] [])) (fun _ k => castTop (ef_rm22 m ak ak) k) (fun P hP => ?_)
  have lt_ak : @LT.lt Nat _ ak h0.size := pr1.lt
  refine own_go (st' := s₁.setTop (mkF m 1 #[oR ak, oR ak] [(.ref ak)])) (fun _ k => XS.aloadN X0.here hx rfl (hb hby d22_0) rfl rfl k) ?_
  refine own_go (st' := s₁.setTop (mkF m 2 #[oR ak, oR ak] [(.ref ak), (.ref ak)])) (fun _ k => XS.aloadN X0.here hx rfl (hb hby d22_1) rfl rfl k) ?_
  obtain ⟨T1, X1, e1, st1⟩ := castY X0 hx hZ hown (own_hw hw 104) e0 (Ins.self pr1) (g := (mkF m 2 #[oR ak, oR ak] [(.ref ak), (.ref ak)])) rfl rfl (hb hby d22_2)
  refine own_go (st' := T1.setTop (mkF m 5 #[oR ak, oR ak] [(.ref ak), (.ref ak)])) (st1) ?_
  obtain ⟨cq2, kq2, q2a, q2b, q2c⟩ := isOf hZ e1 pr1
  obtain ⟨_, _, ⟨T2, LC2, kC2, nC2⟩, -, X2, ⟨Lc2, hQ2, lq2, yq2, zq2⟩, st2⟩ := X1.virtualBack hx (y := oM15) (z := oM15) hown (mvT hZ (own_hw hw 164)) (mvT hZ (own_hw hw 165)) (notFace_of_selects (args := #[]) (mvT hZ (own_hw hw 167))) (mvT hZ (own_hw hw 167)) (mvT hZ (own_hw hw 166)) (by decide) (backOf (W := 0) (rm23 l Z a0 hw [] ak q1 h0 n0 (by omega) pr1 pr2) hZ (own_hw hw 168) (own_hw hw 53) (by decide) (by decide)) q2a q2c (g := (mkF m 5 #[oR ak, oR ak] [(.ref ak), (.ref ak)])) rfl (by rw [hml]; rfl) (Steps.refl _) (argsL := [(.ref ak)]) (rest := []) (lenOf pd_4 rfl) rfl (by show 2 * 0 + _ ≤ _; exact Nat.le_of_eq rfl) (hb hby d22_5) (fun _ _ => ⟨rfl, e1, (by decide : 0 + 0 ≤ _), (by decide : 0 + 0 ≤ _)⟩)
  dsimp only [Pt.U, Pt.locs, Pt.cells, Pt.slots] at X2 lq2 yq2 zq2 st2 hQ2
  subst lq2 yq2 zq2
  obtain ⟨rfl, Nq2, eq2⟩ := hQ2
  have N2 := Fr.app N0 Nq2
  refine own_go (st' := T2.setTop (mkF m 8 #[oR ak, oR ak] [(.int (0 : Int32))])) (fun _ k => st2.trans k) ?_
  obtain ⟨fs, hr, hrun, hended, hW, hsame⟩ := X2.leave (v := some (.int (0 : Int32))) (fun h => by rw [Bd.returns] at h; cases h)
  refine ⟨_, _, ?_, hP _ _ hrun hended ⟨_, _, rfl, ?_, ⟨_, rfl⟩, hW, hsame.mono (by decide) (by decide)⟩⟩
  · exact retOut X2 hx Bd.returns rfl (Or.inl ⟨rfl, Or.inl rfl, _, rfl⟩) (hb hby d22_8) hr
  · show Qrm22 Z ak q1 h0 n0 _ T2.heap _
    rw [eq2]
    exact ⟨rfl, N2, rfl⟩
theorem pd_5 : parseMethodDescriptor "(Ljava/lang/Object;)I" = some ⟨[(.object "java/lang/Object")], some .int⟩ := by decide +kernel
theorem d21_0 : decode jdk_2483_method_2_code 0 = .ok (.aload_n 2, 1) := by decide +kernel
theorem d21_1 : decode jdk_2483_method_2_code 1 = .ok (.aload_n 1, 1) := by decide +kernel
theorem d21_2 : decode jdk_2483_method_2_code 2 = .ok (.invokeinterface 7 2, 5) := by decide +kernel
theorem d21_7 : decode jdk_2483_method_2_code 7 = .ok (.ireturn, 1) := by decide +kernel
theorem pn_21 : plainName "java/util/Collections$ReverseComparator" = true := by first | (simp [plainName, overriddenIn]; done) | decide +kernel
theorem ef_rm21 (m : MethodId) (x0 : Addr) (x1 : Addr) (x2 : Addr) : entryFrame m #[(.ref x0), (.ref x1), (.ref x2)] 3 = mkF m 0 #[.val (.ref x0), .val (.ref x1), .val (.ref x2)] [] := by first | (simp [entryFrame, mkF, argsToLocals, Value.category]; done) | rfl
def Qrm21 (Z : State) (cmp : Addr) (ak : Addr) (q1 : Int64) (h0 : Heap) (n0 : Nat) (v : Option Value) (h : Heap) (L : List Loc) : Prop := (v = some (.int (0 : Int32))) ∧ (Fr n0 L) ∧ (h = h0)
set_option maxRecDepth 65536 in
set_option maxHeartbeats 40000000 in
theorem rm21 (l : Launch) (Z : State) (a0 : Array Value) (hw : ∀ d ∈ tables_1, d.before a0 Z = true) (ws : List Jvm.Cond) (cmp : Addr) (ak : Addr) (q1 : Int64) (h0 : Heap) (n0 : Nat) (Z0 : n0 ≤ h0.size) (pr1 : Exa Z h0 ak oS3) (pr2 : Fld Z h0 ak oS3 "value" "J" (.long q1)) (pr3 : Exa Z h0 cmp oS21) :
    MetFree l oM16 (head1 (Jvm.Cond.code oM16 jdk_2483_method_2_code 3 (some .int) :: ws) ({ frames := 3, cells := 0, slots := 0, locals := 41 } : Room)) (fun a U => a = #[(.ref cmp), (.ref ak), (.ref ak)] ∧ Z.Warmed39 U.vm ∧ U.heap = h0) (fun _ _ _ _ _ => True) (fun _ U o U' => ∃ v L, o = .returned v ∧ Qrm21 Z cmp ak q1 h0 n0 v U'.heap L ∧ FrameEnd U o U' L ({ frames := 3, cells := 0, slots := 0, locals := 41 } : Room).cells ({ frames := 3, cells := 0, slots := 0, locals := 41 } : Room).slots) := by
  refine MetFree.of_bodySF (plainFor_of_name pn_21) hisR ?_
  intro p e s m args below meth c s₁ Bd hml0 hP0 hK
  obtain ⟨rfl, hZ, hh⟩ := hP0
  have hx := Bd.exec
  have hby := Bd.bytes
  have hml : c.maxLocals = 3 := hml0
  have hown : s.vm.findClass oS21 = some m.cls := findClass_of_methodNamed Bd.named
  have hnm := (name_of_methodNamed Bd.named Bd.method).1
  have X0 : Stand p l e ({ frames := 3, cells := 0, slots := 0, locals := 41 } : Room) s m #[(.ref cmp), (.ref ak), (.ref ak)] below meth c s₁ [] 0 0 := Stand.of_body Bd
  have e0 : s₁.heap = h0 := by rw [← hh, Bd.state]; rfl
  have N0 := Fr.nil n0
  refine own_fin (st' := s₁.setTop (mkF m 0 #[oR cmp, oR ak, oR ak] [])) (fun _ k => castTop (ef_rm21 m cmp ak ak) k) (fun P hP => ?_)
  have lt_ak : @LT.lt Nat _ ak h0.size := pr1.lt
  have lt_cmp : @LT.lt Nat _ cmp h0.size := pr3.lt
  refine own_go (st' := s₁.setTop (mkF m 1 #[oR cmp, oR ak, oR ak] [(.ref ak)])) (fun _ k => XS.aloadN X0.here hx rfl (hb hby d21_0) rfl rfl k) ?_
  refine own_go (st' := s₁.setTop (mkF m 2 #[oR cmp, oR ak, oR ak] [(.ref ak), (.ref ak)])) (fun _ k => XS.aloadN X0.here hx rfl (hb hby d21_1) rfl rfl k) ?_
  obtain ⟨cq1, kq1, q1a, q1b, q1c⟩ := isOf hZ e0 pr1
  obtain ⟨_, _, ⟨T1, LC1, kC1, nC1⟩, -, X1, ⟨Lc1, hQ1, lq1, yq1, zq1⟩, st1⟩ := X0.interfaceBack hx (xi := (⟨"java/lang/Comparable", "compareTo", "(Ljava/lang/Object;)I"⟩ : MethodName)) (y := oM53) hown (mvT hZ (own_hw hw 156)) (mvT hZ (own_hw hw 157)) (mvT hZ (own_hw hw 158)) (mvT hZ (own_hw hw 159)) (mvT hZ (own_hw hw 160)) (mvT hZ (own_hw hw 161)) (mvT hZ (own_hw hw 162)) (mvT hZ (own_hw hw 150)) (by decide) (backOf (W := 0) (rm22 l Z a0 hw [] ak q1 h0 n0 (by omega) pr1 pr2) hZ (own_hw hw 163) (own_hw hw 53) (by decide) (by decide)) q1a q1b q1c (g := (mkF m 2 #[oR cmp, oR ak, oR ak] [(.ref ak), (.ref ak)])) rfl (by rw [hml]; rfl) (Steps.refl _) (argsL := [(.ref ak)]) (rest := []) (lenOf pd_5 rfl) rfl (by show 2 * 0 + _ ≤ _; exact Nat.le_of_eq rfl) (hb hby d21_2) (fun _ _ => ⟨rfl, e0, (by decide : 0 + 0 ≤ _), (by decide : 0 + 0 ≤ _)⟩)
  dsimp only [Pt.U, Pt.locs, Pt.cells, Pt.slots] at X1 lq1 yq1 zq1 st1 hQ1
  subst lq1 yq1 zq1
  obtain ⟨rfl, Nq1, eq1⟩ := hQ1
  have N1 := Fr.app N0 Nq1
  refine own_go (st' := T1.setTop (mkF m 7 #[oR cmp, oR ak, oR ak] [(.int (0 : Int32))])) (fun _ k => st1.trans k) ?_
  obtain ⟨fs, hr, hrun, hended, hW, hsame⟩ := X1.leave (v := some (.int (0 : Int32))) (fun h => by rw [Bd.returns] at h; cases h)
  refine ⟨_, _, ?_, hP _ _ hrun hended ⟨_, _, rfl, ?_, ⟨_, rfl⟩, hW, hsame.mono (by decide) (by decide)⟩⟩
  · exact retOut X1 hx Bd.returns rfl (Or.inl ⟨rfl, Or.inl rfl, _, rfl⟩) (hb hby d21_7) hr
  · show Qrm21 Z cmp ak q1 h0 n0 _ T1.heap _
    rw [eq1]
    exact ⟨rfl, N1, rfl⟩
theorem pd_6 : parseMethodDescriptor "(Ljava/lang/Comparable;Ljava/lang/Comparable;)I" = some ⟨[(.object "java/lang/Comparable"), (.object "java/lang/Comparable")], some .int⟩ := by decide +kernel
theorem d20_0 : decode jdk_2483_method_5_code 0 = .ok (.aload_n 0, 1) := by decide +kernel
theorem d20_1 : decode jdk_2483_method_5_code 1 = .ok (.aload_n 1, 1) := by decide +kernel
theorem d20_2 : decode jdk_2483_method_5_code 2 = .ok (.checkcast 8, 3) := by decide +kernel
theorem d20_5 : decode jdk_2483_method_5_code 5 = .ok (.aload_n 2, 1) := by decide +kernel
theorem d20_6 : decode jdk_2483_method_5_code 6 = .ok (.checkcast 8, 3) := by decide +kernel
theorem d20_9 : decode jdk_2483_method_5_code 9 = .ok (.invokevirtual 24, 3) := by decide +kernel
theorem d20_12 : decode jdk_2483_method_5_code 12 = .ok (.ireturn, 1) := by decide +kernel
theorem pn_20 : plainName "java/util/Collections$ReverseComparator" = true := by first | (simp [plainName, overriddenIn]; done) | decide +kernel
theorem ef_rm20 (m : MethodId) (x0 : Addr) (x1 : Addr) (x2 : Addr) : entryFrame m #[(.ref x0), (.ref x1), (.ref x2)] 3 = mkF m 0 #[.val (.ref x0), .val (.ref x1), .val (.ref x2)] [] := by first | (simp [entryFrame, mkF, argsToLocals, Value.category]; done) | rfl
def Qrm20 (Z : State) (cmp : Addr) (ak : Addr) (q1 : Int64) (h0 : Heap) (n0 : Nat) (v : Option Value) (h : Heap) (L : List Loc) : Prop := (v = some (.int (0 : Int32))) ∧ (Fr n0 L) ∧ (h = h0)
set_option maxRecDepth 65536 in
set_option maxHeartbeats 40000000 in
theorem rm20 (l : Launch) (Z : State) (a0 : Array Value) (hw : ∀ d ∈ tables_1, d.before a0 Z = true) (ws : List Jvm.Cond) (cmp : Addr) (ak : Addr) (q1 : Int64) (h0 : Heap) (n0 : Nat) (Z0 : n0 ≤ h0.size) (pr1 : Exa Z h0 ak oS3) (pr2 : Fld Z h0 ak oS3 "value" "J" (.long q1)) (pr3 : Exa Z h0 cmp oS21) :
    MetFree l oM54 (head1 (Jvm.Cond.code oM54 jdk_2483_method_5_code 3 (some .int) :: ws) ({ frames := 4, cells := 0, slots := 0, locals := 55 } : Room)) (fun a U => a = #[(.ref cmp), (.ref ak), (.ref ak)] ∧ Z.Warmed39 U.vm ∧ U.heap = h0) (fun _ _ _ _ _ => True) (fun _ U o U' => ∃ v L, o = .returned v ∧ Qrm20 Z cmp ak q1 h0 n0 v U'.heap L ∧ FrameEnd U o U' L ({ frames := 4, cells := 0, slots := 0, locals := 55 } : Room).cells ({ frames := 4, cells := 0, slots := 0, locals := 55 } : Room).slots) := by
  refine MetFree.of_bodySF (plainFor_of_name pn_20) hisR ?_
  intro p e s m args below meth c s₁ Bd hml0 hP0 hK
  obtain ⟨rfl, hZ, hh⟩ := hP0
  have hx := Bd.exec
  have hby := Bd.bytes
  have hml : c.maxLocals = 3 := hml0
  have hown : s.vm.findClass oS21 = some m.cls := findClass_of_methodNamed Bd.named
  have hnm := (name_of_methodNamed Bd.named Bd.method).1
  have X0 : Stand p l e ({ frames := 4, cells := 0, slots := 0, locals := 55 } : Room) s m #[(.ref cmp), (.ref ak), (.ref ak)] below meth c s₁ [] 0 0 := Stand.of_body Bd
  have e0 : s₁.heap = h0 := by rw [← hh, Bd.state]; rfl
  have N0 := Fr.nil n0
  refine own_fin (st' := s₁.setTop (mkF m 0 #[oR cmp, oR ak, oR ak] [])) (fun _ k => castTop (ef_rm20 m cmp ak ak) k) (fun P hP => ?_)
  have lt_ak : @LT.lt Nat _ ak h0.size := pr1.lt
  have lt_cmp : @LT.lt Nat _ cmp h0.size := pr3.lt
  refine own_go (st' := s₁.setTop (mkF m 1 #[oR cmp, oR ak, oR ak] [(.ref cmp)])) (fun _ k => XS.aloadN X0.here hx rfl (hb hby d20_0) rfl rfl k) ?_
  refine own_go (st' := s₁.setTop (mkF m 2 #[oR cmp, oR ak, oR ak] [(.ref ak), (.ref cmp)])) (fun _ k => XS.aloadN X0.here hx rfl (hb hby d20_1) rfl rfl k) ?_
  obtain ⟨T1, X1, e1, st1⟩ := castY X0 hx hZ hown (own_hw hw 149) e0 (Ins.of_exa pr1 (own_hw hw 150)) (g := (mkF m 2 #[oR cmp, oR ak, oR ak] [(.ref ak), (.ref cmp)])) rfl rfl (hb hby d20_2)
  refine own_go (st' := T1.setTop (mkF m 5 #[oR cmp, oR ak, oR ak] [(.ref ak), (.ref cmp)])) (st1) ?_
  refine own_go (st' := T1.setTop (mkF m 6 #[oR cmp, oR ak, oR ak] [(.ref ak), (.ref ak), (.ref cmp)])) (fun _ k => XS.aloadN X1.here hx rfl (hb hby d20_5) rfl rfl k) ?_
  obtain ⟨T2, X2, e2, st2⟩ := castY X1 hx hZ hown (own_hw hw 149) e1 (Ins.of_exa pr1 (own_hw hw 150)) (g := (mkF m 6 #[oR cmp, oR ak, oR ak] [(.ref ak), (.ref ak), (.ref cmp)])) rfl rfl (hb hby d20_6)
  refine own_go (st' := T2.setTop (mkF m 9 #[oR cmp, oR ak, oR ak] [(.ref ak), (.ref ak), (.ref cmp)])) (st2) ?_
  obtain ⟨cq3, kq3, q3a, q3b, q3c⟩ := isOf hZ e2 pr3
  obtain ⟨_, _, ⟨T3, LC3, kC3, nC3⟩, -, X3, ⟨Lc3, hQ3, lq3, yq3, zq3⟩, st3⟩ := X2.virtualBack hx (y := oM16) (z := oM16) hown (mvT hZ (own_hw hw 151)) (mvT hZ (own_hw hw 152)) (notFace_of_selects (args := #[]) (mvT hZ (own_hw hw 154))) (mvT hZ (own_hw hw 154)) (mvT hZ (own_hw hw 153)) (by decide) (backOf (W := 0) (rm21 l Z a0 hw [] cmp ak q1 h0 n0 (by omega) pr1 pr2 pr3) hZ (own_hw hw 155) (own_hw hw 147) (by decide) (by decide)) q3a q3c (g := (mkF m 9 #[oR cmp, oR ak, oR ak] [(.ref ak), (.ref ak), (.ref cmp)])) rfl (by rw [hml]; rfl) (Steps.refl _) (argsL := [(.ref ak), (.ref ak)]) (rest := []) (lenOf pd_6 rfl) rfl (by show 2 * 0 + _ ≤ _; exact Nat.le_of_eq rfl) (hb hby d20_9) (fun _ _ => ⟨rfl, e2, (by decide : 0 + 0 ≤ _), (by decide : 0 + 0 ≤ _)⟩)
  dsimp only [Pt.U, Pt.locs, Pt.cells, Pt.slots] at X3 lq3 yq3 zq3 st3 hQ3
  subst lq3 yq3 zq3
  obtain ⟨rfl, Nq3, eq3⟩ := hQ3
  have N3 := Fr.app N0 Nq3
  refine own_go (st' := T3.setTop (mkF m 12 #[oR cmp, oR ak, oR ak] [(.int (0 : Int32))])) (fun _ k => st3.trans k) ?_
  obtain ⟨fs, hr, hrun, hended, hW, hsame⟩ := X3.leave (v := some (.int (0 : Int32))) (fun h => by rw [Bd.returns] at h; cases h)
  refine ⟨_, _, ?_, hP _ _ hrun hended ⟨_, _, rfl, ?_, ⟨_, rfl⟩, hW, hsame.mono (by decide) (by decide)⟩⟩
  · exact retOut X3 hx Bd.returns rfl (Or.inl ⟨rfl, Or.inl rfl, _, rfl⟩) (hb hby d20_12) hr
  · show Qrm20 Z cmp ak q1 h0 n0 _ T3.heap _
    rw [eq3]
    exact ⟨rfl, N3, rfl⟩
theorem pd_7 : parseMethodDescriptor "(Ljava/lang/Object;Ljava/lang/Object;)I" = some ⟨[(.object "java/lang/Object"), (.object "java/lang/Object")], some .int⟩ := by decide +kernel
theorem d19_0 : decode jdk_2729_method_67_code 0 = .ok (.aload_n 0, 1) := by decide +kernel
theorem d19_1 : decode jdk_2729_method_67_code 1 = .ok (.getfield 16, 3) := by decide +kernel
theorem d19_4 : decode jdk_2729_method_67_code 4 = .ok (.ifnonnull 16, 3) := by decide +kernel
theorem d19_20 : decode jdk_2729_method_67_code 20 = .ok (.aload_n 0, 1) := by decide +kernel
theorem d19_21 : decode jdk_2729_method_67_code 21 = .ok (.getfield 16, 3) := by decide +kernel
theorem d19_24 : decode jdk_2729_method_67_code 24 = .ok (.aload_n 1, 1) := by decide +kernel
theorem d19_25 : decode jdk_2729_method_67_code 25 = .ok (.aload_n 2, 1) := by decide +kernel
theorem d19_26 : decode jdk_2729_method_67_code 26 = .ok (.invokeinterface 117 3, 5) := by decide +kernel
theorem d19_31 : decode jdk_2729_method_67_code 31 = .ok (.ireturn, 1) := by decide +kernel
theorem pn_19 : plainName "java/util/TreeMap" = true := by first | (simp [plainName, overriddenIn]; done) | decide +kernel
theorem ef_rm19 (m : MethodId) (x0 : Addr) (x1 : Addr) (x2 : Addr) : entryFrame m #[(.ref x0), (.ref x1), (.ref x2)] 3 = mkF m 0 #[.val (.ref x0), .val (.ref x1), .val (.ref x2)] [] := by first | (simp [entryFrame, mkF, argsToLocals, Value.category]; done) | rfl
def Qrm19 (Z : State) (am : Addr) (cmp : Addr) (ak : Addr) (q1 : Int64) (h0 : Heap) (n0 : Nat) (v : Option Value) (h : Heap) (L : List Loc) : Prop := (v = some (.int (0 : Int32))) ∧ (Fr n0 L) ∧ (h = h0)
set_option maxRecDepth 65536 in
set_option maxHeartbeats 40000000 in
theorem rm19 (l : Launch) (Z : State) (a0 : Array Value) (hw : ∀ d ∈ tables_1, d.before a0 Z = true) (ws : List Jvm.Cond) (am : Addr) (cmp : Addr) (ak : Addr) (q1 : Int64) (h0 : Heap) (n0 : Nat) (Z0 : n0 ≤ h0.size) (pr1 : Fld Z h0 am oS0 "comparator" oS6 (.ref cmp)) (pr2 : Exa Z h0 ak oS3) (pr3 : Fld Z h0 ak oS3 "value" "J" (.long q1)) (pr4 : Exa Z h0 cmp oS21) :
    MetFree l oM17 (head1 (Jvm.Cond.code oM17 jdk_2729_method_67_code 3 (some .int) :: ws) ({ frames := 5, cells := 0, slots := 0, locals := 69 } : Room)) (fun a U => a = #[(.ref am), (.ref ak), (.ref ak)] ∧ Z.Warmed39 U.vm ∧ U.heap = h0) (fun _ _ _ _ _ => True) (fun _ U o U' => ∃ v L, o = .returned v ∧ Qrm19 Z am cmp ak q1 h0 n0 v U'.heap L ∧ FrameEnd U o U' L ({ frames := 5, cells := 0, slots := 0, locals := 69 } : Room).cells ({ frames := 5, cells := 0, slots := 0, locals := 69 } : Room).slots) := by
  refine MetFree.of_bodySF (plainFor_of_name pn_19) hisR ?_
  intro p e s m args below meth c s₁ Bd hml0 hP0 hK
  obtain ⟨rfl, hZ, hh⟩ := hP0
  have hx := Bd.exec
  have hby := Bd.bytes
  have hml : c.maxLocals = 3 := hml0
  have hown : s.vm.findClass oS0 = some m.cls := findClass_of_methodNamed Bd.named
  have hnm := (name_of_methodNamed Bd.named Bd.method).1
  have X0 : Stand p l e ({ frames := 5, cells := 0, slots := 0, locals := 69 } : Room) s m #[(.ref am), (.ref ak), (.ref ak)] below meth c s₁ [] 0 0 := Stand.of_body Bd
  have e0 : s₁.heap = h0 := by rw [← hh, Bd.state]; rfl
  have N0 := Fr.nil n0
  refine own_fin (st' := s₁.setTop (mkF m 0 #[oR am, oR ak, oR ak] [])) (fun _ k => castTop (ef_rm19 m am ak ak) k) (fun P hP => ?_)
  have lt_am : @LT.lt Nat _ am h0.size := pr1.lt
  have lt_ak : @LT.lt Nat _ ak h0.size := pr2.lt
  have lt_cmp : @LT.lt Nat _ cmp h0.size := pr4.lt
  refine own_go (st' := s₁.setTop (mkF m 1 #[oR am, oR ak, oR ak] [(.ref am)])) (fun _ k => XS.aloadN X0.here hx rfl (hb hby d19_0) rfl rfl k) ?_
  obtain ⟨T1, X1, e1, st1⟩ := getF X0 hx hZ hown (host := "") (Or.inl (own_hw hw 34)) Via.refl e0 pr1 (g := (mkF m 1 #[oR am, oR ak, oR ak] [(.ref am)])) rfl rfl (hb hby d19_1)
  refine own_go (st' := T1.setTop (mkF m 4 #[oR am, oR ak, oR ak] [(.ref cmp)])) (st1) ?_
  refine own_go (st' := T1.setTop (mkF m 20 #[oR am, oR ak, oR ak] [])) (fun _ k => XS.ifnonnullYes X1.here hx rfl (pc0 := 4) (pc' := 20) rfl (hb hby d19_4) rfl (by decide) (by decide) k) ?_
  refine own_go (st' := T1.setTop (mkF m 21 #[oR am, oR ak, oR ak] [(.ref am)])) (fun _ k => XS.aloadN X1.here hx rfl (hb hby d19_20) rfl rfl k) ?_
  obtain ⟨T2, X2, e2, st2⟩ := getF X1 hx hZ hown (host := "") (Or.inl (own_hw hw 34)) Via.refl e1 pr1 (g := (mkF m 21 #[oR am, oR ak, oR ak] [(.ref am)])) rfl rfl (hb hby d19_21)
  refine own_go (st' := T2.setTop (mkF m 24 #[oR am, oR ak, oR ak] [(.ref cmp)])) (st2) ?_
  refine own_go (st' := T2.setTop (mkF m 25 #[oR am, oR ak, oR ak] [(.ref ak), (.ref cmp)])) (fun _ k => XS.aloadN X2.here hx rfl (hb hby d19_24) rfl rfl k) ?_
  refine own_go (st' := T2.setTop (mkF m 26 #[oR am, oR ak, oR ak] [(.ref ak), (.ref ak), (.ref cmp)])) (fun _ k => XS.aloadN X2.here hx rfl (hb hby d19_25) rfl rfl k) ?_
  obtain ⟨cq3, kq3, q3a, q3b, q3c⟩ := isOf hZ e2 pr4
  obtain ⟨_, _, ⟨T3, LC3, kC3, nC3⟩, -, X3, ⟨Lc3, hQ3, lq3, yq3, zq3⟩, st3⟩ := X2.interfaceBack hx (xi := (⟨oS23, "compare", "(Ljava/lang/Object;Ljava/lang/Object;)I"⟩ : MethodName)) (y := oM54) hown (mvT hZ (own_hw hw 139)) (mvT hZ (own_hw hw 140)) (mvT hZ (own_hw hw 141)) (mvT hZ (own_hw hw 142)) (mvT hZ (own_hw hw 143)) (mvT hZ (own_hw hw 144)) (mvT hZ (own_hw hw 145)) (mvT hZ (own_hw hw 146)) (by decide) (backOf (W := 0) (rm20 l Z a0 hw [] cmp ak q1 h0 n0 (by omega) pr2 pr3 pr4) hZ (own_hw hw 148) (own_hw hw 147) (by decide) (by decide)) q3a q3b q3c (g := (mkF m 26 #[oR am, oR ak, oR ak] [(.ref ak), (.ref ak), (.ref cmp)])) rfl (by rw [hml]; rfl) (Steps.refl _) (argsL := [(.ref ak), (.ref ak)]) (rest := []) (lenOf pd_7 rfl) rfl (by show 2 * 0 + _ ≤ _; exact Nat.le_of_eq rfl) (hb hby d19_26) (fun _ _ => ⟨rfl, e2, (by decide : 0 + 0 ≤ _), (by decide : 0 + 0 ≤ _)⟩)
  dsimp only [Pt.U, Pt.locs, Pt.cells, Pt.slots] at X3 lq3 yq3 zq3 st3 hQ3
  subst lq3 yq3 zq3
  obtain ⟨rfl, Nq3, eq3⟩ := hQ3
  have N3 := Fr.app N0 Nq3
  refine own_go (st' := T3.setTop (mkF m 31 #[oR am, oR ak, oR ak] [(.int (0 : Int32))])) (fun _ k => st3.trans k) ?_
  obtain ⟨fs, hr, hrun, hended, hW, hsame⟩ := X3.leave (v := some (.int (0 : Int32))) (fun h => by rw [Bd.returns] at h; cases h)
  refine ⟨_, _, ?_, hP _ _ hrun hended ⟨_, _, rfl, ?_, ⟨_, rfl⟩, hW, hsame.mono (by decide) (by decide)⟩⟩
  · exact retOut X3 hx Bd.returns rfl (Or.inl ⟨rfl, Or.inl rfl, _, rfl⟩) (hb hby d19_31) hr
  · show Qrm19 Z am cmp ak q1 h0 n0 _ T3.heap _
    rw [eq3]
    exact ⟨rfl, N3, rfl⟩
theorem d25_0 : decode jdk_2736_method_1_code 0 = .ok (.aload_n 0, 1) := by decide +kernel
theorem d25_1 : decode jdk_2736_method_1_code 1 = .ok (.invokespecial 3, 3) := by decide +kernel
theorem d25_4 : decode jdk_2736_method_1_code 4 = .ok (.aload_n 0, 1) := by decide +kernel
theorem d25_5 : decode jdk_2736_method_1_code 5 = .ok (.iconst 1, 1) := by decide +kernel
theorem d25_6 : decode jdk_2736_method_1_code 6 = .ok (.putfield 9, 3) := by decide +kernel
theorem d25_9 : decode jdk_2736_method_1_code 9 = .ok (.aload_n 0, 1) := by decide +kernel
theorem d25_10 : decode jdk_2736_method_1_code 10 = .ok (.aload_n 1, 1) := by decide +kernel
theorem d25_11 : decode jdk_2736_method_1_code 11 = .ok (.putfield 15, 3) := by decide +kernel
theorem d25_14 : decode jdk_2736_method_1_code 14 = .ok (.aload_n 0, 1) := by decide +kernel
theorem d25_15 : decode jdk_2736_method_1_code 15 = .ok (.aload_n 2, 1) := by decide +kernel
theorem d25_16 : decode jdk_2736_method_1_code 16 = .ok (.putfield 19, 3) := by decide +kernel
theorem d25_19 : decode jdk_2736_method_1_code 19 = .ok (.aload_n 0, 1) := by decide +kernel
theorem d25_20 : decode jdk_2736_method_1_code 20 = .ok (.aload_n 3, 1) := by decide +kernel
theorem d25_21 : decode jdk_2736_method_1_code 21 = .ok (.putfield 22, 3) := by decide +kernel
theorem d25_24 : decode jdk_2736_method_1_code 24 = .ok (.return_, 1) := by decide +kernel
theorem pn_25 : plainName "java/util/TreeMap$Entry" = true := by first | (simp [plainName, overriddenIn]; done) | decide +kernel
theorem ef_rm25 (m : MethodId) (x0 : Addr) (x1 : Addr) (x2 : Addr) : entryFrame m #[(.ref x0), (.ref x1), (.ref x2), .null] 4 = mkF m 0 #[.val (.ref x0), .val (.ref x1), .val (.ref x2), .val .null] [] := by first | (simp [entryFrame, mkF, argsToLocals, Value.category]; done) | rfl
def Qrm25 (Z : State) (a1 : Addr) (ak : Addr) (av : Addr) (h0 : Heap) (n0 : Nat) (v : Option Value) (h : Heap) (L : List Loc) : Prop := (v = none) ∧ (Fr n0 L) ∧ (Keep h0 h [a1]) ∧ (Exa Z h a1 "java/util/TreeMap$Entry") ∧ (Fld Z h a1 "java/util/TreeMap$Entry" "key" "Ljava/lang/Object;" (.ref ak)) ∧ (Fld Z h a1 "java/util/TreeMap$Entry" "value" "Ljava/lang/Object;" (.ref av)) ∧ (Fld Z h a1 "java/util/TreeMap$Entry" "left" "Ljava/util/TreeMap$Entry;" .null) ∧ (Fld Z h a1 "java/util/TreeMap$Entry" "right" "Ljava/util/TreeMap$Entry;" .null) ∧ (Fld Z h a1 "java/util/TreeMap$Entry" "parent" "Ljava/util/TreeMap$Entry;" .null)
set_option maxRecDepth 65536 in
set_option maxHeartbeats 40000000 in
theorem rm25 (l : Launch) (Z : State) (a0 : Array Value) (hw : ∀ d ∈ tables_1, d.before a0 Z = true) (ws : List Jvm.Cond) (a1 : Addr) (ak : Addr) (av : Addr) (h0 : Heap) (n0 : Nat) (Z0 : n0 ≤ h0.size) (pr1 : Exa Z h0 a1 oS1) (pr2 : Fld Z h0 a1 oS1 "key" oS8 .null) (pr3 : Fld Z h0 a1 oS1 "value" oS8 .null) (pr4 : Fld Z h0 a1 oS1 "left" oS2 .null) (pr5 : Fld Z h0 a1 oS1 "right" oS2 .null) (pr6 : Fld Z h0 a1 oS1 "parent" oS2 .null) (pr7 : Fld Z h0 a1 oS1 "color" "Z" (.int (0 : Int32))) (pr8 : n0 ≤ a1) :
    MetFree l oM55 (head1 (Jvm.Cond.code oM55 jdk_2736_method_1_code 4 none :: ws) ({ frames := 1, cells := 0, slots := 0, locals := 12 } : Room)) (fun a U => a = #[(.ref a1), (.ref ak), (.ref av), .null] ∧ Z.Warmed39 U.vm ∧ U.heap = h0) (fun _ _ _ _ _ => True) (fun _ U o U' => ∃ v L, o = .returned v ∧ Qrm25 Z a1 ak av h0 n0 v U'.heap L ∧ FrameEnd U o U' L ({ frames := 1, cells := 0, slots := 0, locals := 12 } : Room).cells ({ frames := 1, cells := 0, slots := 0, locals := 12 } : Room).slots) := by
  refine MetFree.of_bodySF (plainFor_of_name pn_25) hisR ?_
  intro p e s m args below meth c s₁ Bd hml0 hP0 hK
  obtain ⟨rfl, hZ, hh⟩ := hP0
  have hx := Bd.exec
  have hby := Bd.bytes
  have hml : c.maxLocals = 4 := hml0
  have hown : s.vm.findClass oS1 = some m.cls := findClass_of_methodNamed Bd.named
  have hnm := (name_of_methodNamed Bd.named Bd.method).1
  have X0 : Stand p l e ({ frames := 1, cells := 0, slots := 0, locals := 12 } : Room) s m #[(.ref a1), (.ref ak), (.ref av), .null] below meth c s₁ [] 0 0 := Stand.of_body Bd
  have e0 : s₁.heap = h0 := by rw [← hh, Bd.state]; rfl
  have N0 := Fr.nil n0
  refine own_fin (st' := s₁.setTop (mkF m 0 #[oR a1, oR ak, oR av, .val .null] [])) (fun _ k => castTop (ef_rm25 m a1 ak av) k) (fun P hP => ?_)
  have lt_a1 : @LT.lt Nat _ a1 h0.size := pr1.lt
  refine own_go (st' := s₁.setTop (mkF m 1 #[oR a1, oR ak, oR av, .val .null] [(.ref a1)])) (fun _ k => XS.aloadN X0.here hx rfl (hb hby d25_0) rfl rfl k) ?_
  obtain ⟨T1, X1, e1, st1⟩ := initO X0 hx hZ hown (own_hw hw 179) (own_hw hw 13) (own_hw hw 14) e0 (g := (mkF m 1 #[oR a1, oR ak, oR av, .val .null] [(.ref a1)])) rfl (by rw [hml]; rfl) rfl (hb hby d25_1) (by decide) (W := 0) (by show 2 * 0 + _ ≤ _; exact Nat.le_of_eq rfl) (by decide)
  refine own_go (st' := T1.setTop (mkF m 4 #[oR a1, oR ak, oR av, .val .null] [])) (st1) ?_
  refine own_go (st' := T1.setTop (mkF m 5 #[oR a1, oR ak, oR av, .val .null] [(.ref a1)])) (fun _ k => XS.aloadN X1.here hx rfl (hb hby d25_4) rfl rfl k) ?_
  refine own_go (st' := T1.setTop (mkF m 6 #[oR a1, oR ak, oR av, .val .null] [(.int (1 : Int32)), (.ref a1)])) (fun _ k => XS.iconst X1.here hx rfl (hb hby d25_5) k) ?_
  obtain ⟨T2, h2, X2, e2, W2, st2⟩ := putFN X1 hx hZ hown (own_hw hw 180) Via.refl e1 pr7 pr1 (Or.inl (own_hw hw 181)) (own_hw hw 173) (ty := .boolean) (v' := (.int (1 : Int32))) (by decide) rfl rfl (g := (mkF m 6 #[oR a1, oR ak, oR av, .val .null] [(.int (1 : Int32)), (.ref a1)])) rfl rfl (hb hby d25_6)
  have sz2 : h2.size = h0.size := W2.size
  have N2 := Fr.snoc X2 N0 (by omega)
  have f2 : Fld Z h2 a1 oS1 "color" "Z" (.int (1 : Int32)) := pr7.same W2
  refine own_go (st' := T2.setTop (mkF m 9 #[oR a1, oR ak, oR av, .val .null] [])) (st2) ?_
  refine own_go (st' := T2.setTop (mkF m 10 #[oR a1, oR ak, oR av, .val .null] [(.ref a1)])) (fun _ k => XS.aloadN X2.here hx rfl (hb hby d25_9) rfl rfl k) ?_
  refine own_go (st' := T2.setTop (mkF m 11 #[oR a1, oR ak, oR av, .val .null] [(.ref ak), (.ref a1)])) (fun _ k => XS.aloadN X2.here hx rfl (hb hby d25_10) rfl rfl k) ?_
  have c3 : Fld Z h2 a1 oS1 "key" oS8 .null := (pr2.other W2 (Or.inr (slot_ne (Or.inl (own_hw hw 183)) (Or.inl (own_hw hw 181)) (by decide) (t := (.object oS16)) (t' := .boolean) (by decide) (by decide))))
  have c4 : Exa Z h2 a1 oS1 := (pr1.wr W2)
  obtain ⟨T5, h5, X5, e5, W5, st5⟩ := putF X2 hx hZ hown (host := "") (Or.inl (own_hw hw 182)) Via.refl e2 c3 c4 (Or.inl (own_hw hw 183)) (own_hw hw 173) (ty := (.object oS16)) (by decide) rfl rfl (g := (mkF m 11 #[oR a1, oR ak, oR av, .val .null] [(.ref ak), (.ref a1)])) rfl rfl (hb hby d25_11)
  have sz5 : h5.size = h2.size := W5.size
  have N5 := Fr.snoc X5 N2 (by omega)
  have f5 : Fld Z h5 a1 oS1 "key" oS8 (.ref ak) := c3.same W5
  refine own_go (st' := T5.setTop (mkF m 14 #[oR a1, oR ak, oR av, .val .null] [])) (st5) ?_
  refine own_go (st' := T5.setTop (mkF m 15 #[oR a1, oR ak, oR av, .val .null] [(.ref a1)])) (fun _ k => XS.aloadN X5.here hx rfl (hb hby d25_14) rfl rfl k) ?_
  refine own_go (st' := T5.setTop (mkF m 16 #[oR a1, oR ak, oR av, .val .null] [(.ref av), (.ref a1)])) (fun _ k => XS.aloadN X5.here hx rfl (hb hby d25_15) rfl rfl k) ?_
  have c6 : Fld Z h5 a1 oS1 "value" oS8 .null := ((pr3.other W2 (Or.inr (slot_ne (Or.inl (own_hw hw 185)) (Or.inl (own_hw hw 181)) (by decide) (t := (.object oS16)) (t' := .boolean) (by decide) (by decide)))).other W5 (Or.inr (slot_ne (Or.inl (own_hw hw 185)) (Or.inl (own_hw hw 183)) (by decide) (t := (.object oS16)) (t' := (.object oS16)) (by decide) (by decide))))
  have c7 : Exa Z h5 a1 oS1 := (c4.wr W5)
  obtain ⟨T8, h8, X8, e8, W8, st8⟩ := putF X5 hx hZ hown (host := "") (Or.inl (own_hw hw 184)) Via.refl e5 c6 c7 (Or.inl (own_hw hw 185)) (own_hw hw 173) (ty := (.object oS16)) (by decide) rfl rfl (g := (mkF m 16 #[oR a1, oR ak, oR av, .val .null] [(.ref av), (.ref a1)])) rfl rfl (hb hby d25_16)
  have sz8 : h8.size = h5.size := W8.size
  have N8 := Fr.snoc X8 N5 (by omega)
  have f8 : Fld Z h8 a1 oS1 "value" oS8 (.ref av) := c6.same W8
  refine own_go (st' := T8.setTop (mkF m 19 #[oR a1, oR ak, oR av, .val .null] [])) (st8) ?_
  refine own_go (st' := T8.setTop (mkF m 20 #[oR a1, oR ak, oR av, .val .null] [(.ref a1)])) (fun _ k => XS.aloadN X8.here hx rfl (hb hby d25_19) rfl rfl k) ?_
  refine own_go (st' := T8.setTop (mkF m 21 #[oR a1, oR ak, oR av, .val .null] [.null, (.ref a1)])) (fun _ k => XS.aloadN X8.here hx rfl (hb hby d25_20) rfl rfl k) ?_
  have c9 : Fld Z h8 a1 oS1 "parent" oS2 .null := (((pr6.other W2 (Or.inr (slot_ne (Or.inl (own_hw hw 187)) (Or.inl (own_hw hw 181)) (by decide) (t := (.object oS1)) (t' := .boolean) (by decide) (by decide)))).other W5 (Or.inr (slot_ne (Or.inl (own_hw hw 187)) (Or.inl (own_hw hw 183)) (by decide) (t := (.object oS1)) (t' := (.object oS16)) (by decide) (by decide)))).other W8 (Or.inr (slot_ne (Or.inl (own_hw hw 187)) (Or.inl (own_hw hw 185)) (by decide) (t := (.object oS1)) (t' := (.object oS16)) (by decide) (by decide))))
  have c10 : Exa Z h8 a1 oS1 := (c7.wr W8)
  obtain ⟨T11, h11, X11, e11, W11, st11⟩ := putF X8 hx hZ hown (host := "") (Or.inl (own_hw hw 186)) Via.refl e8 c9 c10 (Or.inl (own_hw hw 187)) (own_hw hw 173) (ty := (.object oS1)) (by decide) rfl rfl (g := (mkF m 21 #[oR a1, oR ak, oR av, .val .null] [.null, (.ref a1)])) rfl rfl (hb hby d25_21)
  have sz11 : h11.size = h8.size := W11.size
  have N11 := Fr.snoc X11 N8 (by omega)
  have f11 : Fld Z h11 a1 oS1 "parent" oS2 .null := c9.same W11
  refine own_go (st' := T11.setTop (mkF m 24 #[oR a1, oR ak, oR av, .val .null] [])) (st11) ?_
  obtain ⟨fs, hr, hrun, hended, hW, hsame⟩ := X11.leave (v := none) (fun _ => rfl)
  refine ⟨_, _, ?_, hP _ _ hrun hended ⟨_, _, rfl, ?_, ⟨_, rfl⟩, hW, hsame.mono (by decide) (by decide)⟩⟩
  · exact X11.returnOut hx Bd.returns (hb hby d25_24) hr
  · show Qrm25 Z a1 ak av h0 n0 _ T11.heap _
    have c13 : Exa Z h11 a1 oS1 := (c10.wr W11)
    have c14 : Fld Z h11 a1 oS1 "key" oS8 (.ref ak) := ((f5.other W8 (Or.inr (slot_ne (Or.inl (own_hw hw 183)) (Or.inl (own_hw hw 185)) (by decide) (t := (.object oS16)) (t' := (.object oS16)) (by decide) (by decide)))).other W11 (Or.inr (slot_ne (Or.inl (own_hw hw 183)) (Or.inl (own_hw hw 187)) (by decide) (t := (.object oS16)) (t' := (.object oS1)) (by decide) (by decide))))
    have c15 : Fld Z h11 a1 oS1 "value" oS8 (.ref av) := (f8.other W11 (Or.inr (slot_ne (Or.inl (own_hw hw 185)) (Or.inl (own_hw hw 187)) (by decide) (t := (.object oS16)) (t' := (.object oS1)) (by decide) (by decide))))
    have c16 : Fld Z h11 a1 oS1 "left" oS2 .null := ((((pr4.other W2 (Or.inr (slot_ne (Or.inl (own_hw hw 274)) (Or.inl (own_hw hw 181)) (by decide) (t := (.object oS1)) (t' := .boolean) (by decide) (by decide)))).other W5 (Or.inr (slot_ne (Or.inl (own_hw hw 274)) (Or.inl (own_hw hw 183)) (by decide) (t := (.object oS1)) (t' := (.object oS16)) (by decide) (by decide)))).other W8 (Or.inr (slot_ne (Or.inl (own_hw hw 274)) (Or.inl (own_hw hw 185)) (by decide) (t := (.object oS1)) (t' := (.object oS16)) (by decide) (by decide)))).other W11 (Or.inr (slot_ne (Or.inl (own_hw hw 274)) (Or.inl (own_hw hw 187)) (by decide) (t := (.object oS1)) (t' := (.object oS1)) (by decide) (by decide))))
    have c17 : Fld Z h11 a1 oS1 "right" oS2 .null := ((((pr5.other W2 (Or.inr (slot_ne (Or.inl (own_hw hw 314)) (Or.inl (own_hw hw 181)) (by decide) (t := (.object oS1)) (t' := .boolean) (by decide) (by decide)))).other W5 (Or.inr (slot_ne (Or.inl (own_hw hw 314)) (Or.inl (own_hw hw 183)) (by decide) (t := (.object oS1)) (t' := (.object oS16)) (by decide) (by decide)))).other W8 (Or.inr (slot_ne (Or.inl (own_hw hw 314)) (Or.inl (own_hw hw 185)) (by decide) (t := (.object oS1)) (t' := (.object oS16)) (by decide) (by decide)))).other W11 (Or.inr (slot_ne (Or.inl (own_hw hw 314)) (Or.inl (own_hw hw 187)) (by decide) (t := (.object oS1)) (t' := (.object oS1)) (by decide) (by decide))))
    rw [e11]
    exact ⟨rfl, N11, (((((Keep.refl h0 [a1]).wr W2 (Or.inl (List.mem_of_getElem? (i := 0) rfl))).wr W5 (Or.inl (List.mem_of_getElem? (i := 0) rfl))).wr W8 (Or.inl (List.mem_of_getElem? (i := 0) rfl))).wr W11 (Or.inl (List.mem_of_getElem? (i := 0) rfl))), c13, c14, c15, c16, c17, f11⟩
theorem pd_8 : parseMethodDescriptor "(Ljava/lang/Object;Ljava/lang/Object;Ljava/util/TreeMap$Entry;)V" = some ⟨[(.object "java/lang/Object"), (.object "java/lang/Object"), (.object "java/util/TreeMap$Entry")], none⟩ := by decide +kernel
theorem d18_0 : decode jdk_2729_method_30_code 0 = .ok (.aload_n 0, 1) := by decide +kernel
theorem d18_1 : decode jdk_2729_method_30_code 1 = .ok (.aload_n 1, 1) := by decide +kernel
theorem d18_2 : decode jdk_2729_method_30_code 2 = .ok (.aload_n 1, 1) := by decide +kernel
theorem d18_3 : decode jdk_2729_method_30_code 3 = .ok (.invokevirtual 123, 3) := by decide +kernel
theorem d18_6 : decode jdk_2729_method_30_code 6 = .ok (.pop, 1) := by decide +kernel
theorem d18_7 : decode jdk_2729_method_30_code 7 = .ok (.aload_n 0, 1) := by decide +kernel
theorem d18_8 : decode jdk_2729_method_30_code 8 = .ok (.new 59, 3) := by decide +kernel
theorem d18_11 : decode jdk_2729_method_30_code 11 = .ok (.dup, 1) := by decide +kernel
theorem d18_12 : decode jdk_2729_method_30_code 12 = .ok (.aload_n 1, 1) := by decide +kernel
theorem d18_13 : decode jdk_2729_method_30_code 13 = .ok (.aload_n 2, 1) := by decide +kernel
theorem d18_14 : decode jdk_2729_method_30_code 14 = .ok (.aconst_null, 1) := by decide +kernel
theorem d18_15 : decode jdk_2729_method_30_code 15 = .ok (.invokespecial 167, 3) := by decide +kernel
theorem d18_18 : decode jdk_2729_method_30_code 18 = .ok (.putfield 101, 3) := by decide +kernel
theorem d18_21 : decode jdk_2729_method_30_code 21 = .ok (.aload_n 0, 1) := by decide +kernel
theorem d18_22 : decode jdk_2729_method_30_code 22 = .ok (.iconst 1, 1) := by decide +kernel
theorem d18_23 : decode jdk_2729_method_30_code 23 = .ok (.putfield 7, 3) := by decide +kernel
theorem d18_26 : decode jdk_2729_method_30_code 26 = .ok (.aload_n 0, 1) := by decide +kernel
theorem d18_27 : decode jdk_2729_method_30_code 27 = .ok (.dup, 1) := by decide +kernel
theorem d18_28 : decode jdk_2729_method_30_code 28 = .ok (.getfield 13, 3) := by decide +kernel
theorem d18_31 : decode jdk_2729_method_30_code 31 = .ok (.iconst 1, 1) := by decide +kernel
theorem d18_32 : decode jdk_2729_method_30_code 32 = .ok (.iadd, 1) := by decide +kernel
theorem d18_33 : decode jdk_2729_method_30_code 33 = .ok (.putfield 13, 3) := by decide +kernel
theorem d18_36 : decode jdk_2729_method_30_code 36 = .ok (.return_, 1) := by decide +kernel
theorem pn_18 : plainName "java/util/TreeMap" = true := by first | (simp [plainName, overriddenIn]; done) | decide +kernel
theorem ef_rm18 (m : MethodId) (x0 : Addr) (x1 : Addr) (x2 : Addr) : entryFrame m #[(.ref x0), (.ref x1), (.ref x2)] 3 = mkF m 0 #[.val (.ref x0), .val (.ref x1), .val (.ref x2)] [] := by first | (simp [entryFrame, mkF, argsToLocals, Value.category]; done) | rfl
def Qrm18 (Z : State) (am : Addr) (cmp : Addr) (av : Addr) (ak : Addr) (q1 : Int64) (h0 : Heap) (n0 : Nat) (v : Option Value) (h : Heap) (L : List Loc) : Prop := ∃ (ae : Addr), (v = none) ∧ (Fr n0 L) ∧ (Keep h0 h [am]) ∧ (Exa Z h am "java/util/TreeMap") ∧ (Fld Z h am "java/util/TreeMap" "comparator" "Ljava/util/Comparator;" (.ref cmp)) ∧ (Fld Z h am "java/util/TreeMap" "root" "Ljava/util/TreeMap$Entry;" (.ref ae)) ∧ (Fld Z h am "java/util/TreeMap" "size" "I" (.int (1 : Int32))) ∧ (Fld Z h am "java/util/TreeMap" "modCount" "I" (.int (1 : Int32))) ∧ (Fld Z h am "java/util/TreeMap" "navigableKeySet" "Ljava/util/TreeMap$KeySet;" .null) ∧ (Fld Z h am "java/util/TreeMap" "entrySet" "Ljava/util/TreeMap$EntrySet;" .null) ∧ (Exa Z h ae "java/util/TreeMap$Entry") ∧ (Fld Z h ae "java/util/TreeMap$Entry" "key" "Ljava/lang/Object;" (.ref ak)) ∧ (Fld Z h ae "java/util/TreeMap$Entry" "value" "Ljava/lang/Object;" (.ref av)) ∧ (Fld Z h ae "java/util/TreeMap$Entry" "left" "Ljava/util/TreeMap$Entry;" .null) ∧ (Fld Z h ae "java/util/TreeMap$Entry" "right" "Ljava/util/TreeMap$Entry;" .null) ∧ (Fld Z h ae "java/util/TreeMap$Entry" "parent" "Ljava/util/TreeMap$Entry;" .null) ∧ (h0.size ≤ ae)
set_option maxRecDepth 65536 in
set_option maxHeartbeats 40000000 in
theorem rm18 (l : Launch) (Z : State) (a0 : Array Value) (hw : ∀ d ∈ tables_1, d.before a0 Z = true) (ws : List Jvm.Cond) (am : Addr) (cmp : Addr) (av : Addr) (ak : Addr) (q1 : Int64) (h0 : Heap) (n0 : Nat) (Z0 : n0 ≤ h0.size) (pr1 : Exa Z h0 am oS0) (pr2 : Fld Z h0 am oS0 "comparator" oS6 (.ref cmp)) (pr3 : Fld Z h0 am oS0 "root" oS2 .null) (pr4 : Fld Z h0 am oS0 "size" "I" (.int (0 : Int32))) (pr5 : Fld Z h0 am oS0 "modCount" "I" (.int (0 : Int32))) (pr6 : Fld Z h0 am oS0 oS10 oS11 .null) (pr7 : Fld Z h0 am oS0 "entrySet" oS12 .null) (pr8 : Exa Z h0 ak oS3) (pr9 : Fld Z h0 ak oS3 "value" "J" (.long q1)) (pr10 : Exa Z h0 cmp oS21) (pr11 : n0 ≤ am) (pr12 : own_D am ak) (pr13 : own_D am cmp) :
    MetFree l oM56 (head1 (Jvm.Cond.code oM56 jdk_2729_method_30_code 3 none :: ws) ({ frames := 6, cells := 1, slots := 6, locals := 83 } : Room)) (fun a U => a = #[(.ref am), (.ref ak), (.ref av)] ∧ Z.Warmed39 U.vm ∧ U.heap = h0) (fun _ _ _ _ _ => True) (fun _ U o U' => ∃ v L, o = .returned v ∧ Qrm18 Z am cmp av ak q1 h0 n0 v U'.heap L ∧ FrameEnd U o U' L ({ frames := 6, cells := 1, slots := 6, locals := 83 } : Room).cells ({ frames := 6, cells := 1, slots := 6, locals := 83 } : Room).slots) := by
  refine MetFree.of_bodySF (plainFor_of_name pn_18) hisR ?_
  intro p e s m args below meth c s₁ Bd hml0 hP0 hK
  obtain ⟨rfl, hZ, hh⟩ := hP0
  have hx := Bd.exec
  have hby := Bd.bytes
  have hml : c.maxLocals = 3 := hml0
  have hown : s.vm.findClass oS0 = some m.cls := findClass_of_methodNamed Bd.named
  have hnm := (name_of_methodNamed Bd.named Bd.method).1
  have X0 : Stand p l e ({ frames := 6, cells := 1, slots := 6, locals := 83 } : Room) s m #[(.ref am), (.ref ak), (.ref av)] below meth c s₁ [] 0 0 := Stand.of_body Bd
  have e0 : s₁.heap = h0 := by rw [← hh, Bd.state]; rfl
  have N0 := Fr.nil n0
  refine own_fin (st' := s₁.setTop (mkF m 0 #[oR am, oR ak, oR av] [])) (fun _ k => castTop (ef_rm18 m am ak av) k) (fun P hP => ?_)
  have lt_am : @LT.lt Nat _ am h0.size := pr1.lt
  have lt_ak : @LT.lt Nat _ ak h0.size := pr8.lt
  have lt_cmp : @LT.lt Nat _ cmp h0.size := pr10.lt
  refine own_go (st' := s₁.setTop (mkF m 1 #[oR am, oR ak, oR av] [(.ref am)])) (fun _ k => XS.aloadN X0.here hx rfl (hb hby d18_0) rfl rfl k) ?_
  refine own_go (st' := s₁.setTop (mkF m 2 #[oR am, oR ak, oR av] [(.ref ak), (.ref am)])) (fun _ k => XS.aloadN X0.here hx rfl (hb hby d18_1) rfl rfl k) ?_
  refine own_go (st' := s₁.setTop (mkF m 3 #[oR am, oR ak, oR av] [(.ref ak), (.ref ak), (.ref am)])) (fun _ k => XS.aloadN X0.here hx rfl (hb hby d18_2) rfl rfl k) ?_
  obtain ⟨cq1, kq1, q1a, q1b, q1c⟩ := isOf hZ e0 pr1
  obtain ⟨_, _, ⟨T1, LC1, kC1, nC1⟩, -, X1, ⟨Lc1, hQ1, lq1, yq1, zq1⟩, st1⟩ := X0.virtualBack hx (y := oM17) (z := oM17) hown (mvT hZ (own_hw hw 134)) (mvT hZ (own_hw hw 135)) (notFace_of_selects (args := #[]) (mvT hZ (own_hw hw 137))) (mvT hZ (own_hw hw 137)) (mvT hZ (own_hw hw 136)) (by decide) (backOf (W := 0) (rm19 l Z a0 hw [] am cmp ak q1 h0 n0 (by omega) pr2 pr8 pr9 pr10) hZ (own_hw hw 138) (own_hw hw 17) (by decide) (by decide)) q1a q1c (g := (mkF m 3 #[oR am, oR ak, oR av] [(.ref ak), (.ref ak), (.ref am)])) rfl (by rw [hml]; rfl) (Steps.refl _) (argsL := [(.ref ak), (.ref ak)]) (rest := []) (lenOf pd_7 rfl) rfl (by show 2 * 0 + _ ≤ _; exact Nat.le_of_eq rfl) (hb hby d18_3) (fun _ _ => ⟨rfl, e0, (by decide : 0 + 0 ≤ _), (by decide : 0 + 0 ≤ _)⟩)
  dsimp only [Pt.U, Pt.locs, Pt.cells, Pt.slots] at X1 lq1 yq1 zq1 st1 hQ1
  subst lq1 yq1 zq1
  obtain ⟨rfl, Nq1, eq1⟩ := hQ1
  have N1 := Fr.app N0 Nq1
  refine own_go (st' := T1.setTop (mkF m 6 #[oR am, oR ak, oR av] [(.int (0 : Int32))])) (fun _ k => st1.trans k) ?_
  refine own_go (st' := T1.setTop (mkF m 7 #[oR am, oR ak, oR av] [])) (fun _ k => XS.pop X1.here hx rfl (hb hby d18_6) rfl rfl k) ?_
  refine own_go (st' := T1.setTop (mkF m 8 #[oR am, oR ak, oR av] [(.ref am)])) (fun _ k => XS.aloadN X1.here hx rfl (hb hby d18_7) rfl rfl k) ?_
  obtain ⟨T2, h2, X2, e2, E2, A2, D2, -, st2⟩ := newO X1 hx hZ hown (own_hw hw 172) (own_hw hw 173) (own_hw hw 174) eq1 (g := (mkF m 8 #[oR am, oR ak, oR av] [(.ref am)])) rfl (hb hby d18_8) (by decide) (by decide)
  obtain ⟨b2, g2⟩ : ∃ z, z = h0.size := ⟨_, rfl⟩
  rw [← g2] at A2 D2 st2
  have sz2 : h0.size ≤ h2.size := E2.1
  have lt2 : @LT.lt Nat _ b2 h2.size := A2.lt
  have f3 : Fld Z h2 b2 oS1 "color" "Z" (.int (0 : Int32)) := D2 (Or.inl (own_hw hw 181)) (ty := .boolean) (by decide)
  have f4 : Fld Z h2 b2 oS1 "key" oS8 .null := D2 (Or.inl (own_hw hw 183)) (ty := (.object oS16)) (by decide)
  have f5 : Fld Z h2 b2 oS1 "value" oS8 .null := D2 (Or.inl (own_hw hw 185)) (ty := (.object oS16)) (by decide)
  have f6 : Fld Z h2 b2 oS1 "parent" oS2 .null := D2 (Or.inl (own_hw hw 187)) (ty := (.object oS1)) (by decide)
  have f7 : Fld Z h2 b2 oS1 "left" oS2 .null := D2 (Or.inl (own_hw hw 274)) (ty := (.object oS1)) (by decide)
  have f8 : Fld Z h2 b2 oS1 "right" oS2 .null := D2 (Or.inl (own_hw hw 314)) (ty := (.object oS1)) (by decide)
  refine own_go (st' := T2.setTop (mkF m 11 #[oR am, oR ak, oR av] [(.ref b2), (.ref am)])) (st2) ?_
  refine own_go (st' := T2.setTop (mkF m 12 #[oR am, oR ak, oR av] [(.ref b2), (.ref b2), (.ref am)])) (fun _ k => XS.dup X2.here hx rfl (hb hby d18_11) rfl rfl k) ?_
  refine own_go (st' := T2.setTop (mkF m 13 #[oR am, oR ak, oR av] [(.ref ak), (.ref b2), (.ref b2), (.ref am)])) (fun _ k => XS.aloadN X2.here hx rfl (hb hby d18_12) rfl rfl k) ?_
  refine own_go (st' := T2.setTop (mkF m 14 #[oR am, oR ak, oR av] [(.ref av), (.ref ak), (.ref b2), (.ref b2), (.ref am)])) (fun _ k => XS.aloadN X2.here hx rfl (hb hby d18_13) rfl rfl k) ?_
  refine own_go (st' := T2.setTop (mkF m 15 #[oR am, oR ak, oR av] [.null, (.ref av), (.ref ak), (.ref b2), (.ref b2), (.ref am)])) (fun _ k => XS.aconstNull X2.here hx rfl (hb hby d18_14) k) ?_
  obtain ⟨_, _, ⟨T9, LC9, kC9, nC9⟩, -, X9, ⟨Lc9, hQ9, lq9, yq9, zq9⟩, st9⟩ := X2.specialBack hx (y := oM55) rfl hown (mvT hZ (own_hw hw 175)) (mvT hZ (own_hw hw 176)) (mvT hZ (own_hw hw 178)) (by decide) (backOf (W := 2) (rm25 l Z a0 hw [] b2 ak av h2 n0 (by omega) A2 f4 f5 f7 f8 f6 f3 (by omega)) hZ (own_hw hw 178) (own_hw hw 174) (by decide) (by decide)) (g := (mkF m 15 #[oR am, oR ak, oR av] [.null, (.ref av), (.ref ak), (.ref b2), (.ref b2), (.ref am)])) rfl (by rw [hml]; rfl) (Steps.refl _) (a := b2) (argsL := [(.ref ak), (.ref av), .null]) (rest := [(.ref b2), (.ref am)]) (lenOf pd_8 rfl) rfl (by show 2 * 0 + _ ≤ _; exact Nat.le_of_eq rfl) (hb hby d18_15) (fun _ _ => ⟨rfl, e2, (by decide : 1 + 0 ≤ _), (by decide : 6 + 0 ≤ _)⟩)
  dsimp only [Pt.U, Pt.locs, Pt.cells, Pt.slots] at X9 lq9 yq9 zq9 st9 hQ9
  subst lq9 yq9 zq9
  obtain ⟨h9, e9⟩ : ∃ z, T9.heap = z := ⟨_, rfl⟩
  rw [e9] at hQ9
  obtain ⟨rfl, Nq9, K9, g9_0, g9_1, g9_2, g9_3, g9_4, g9_5⟩ := hQ9
  have sz9 : h2.size ≤ h9.size := K9.1
  have N9 := Fr.app N1 Nq9
  have lt9_1 : @LT.lt Nat _ b2 h9.size := g9_0.lt
  refine own_go (st' := T9.setTop (mkF m 18 #[oR am, oR ak, oR av] [(.ref b2), (.ref am)])) (fun _ k => st9.trans k) ?_
  have c10 : Fld Z h9 am oS0 "root" oS2 .null := ((pr3.ext E2).keep K9 (ninS own_nq nin0))
  have c11 : Exa Z h9 am oS0 := ((pr1.ext E2).keep K9)
  obtain ⟨T12, h12, X12, e12, W12, st12⟩ := putF X9 hx hZ hown (host := "") (Or.inl (own_hw hw 85)) Via.refl e9 c10 c11 (Or.inl (own_hw hw 86)) (own_hw hw 16) (ty := (.object oS1)) (by decide) rfl rfl (g := (mkF m 18 #[oR am, oR ak, oR av] [(.ref b2), (.ref am)])) rfl rfl (hb hby d18_18)
  have sz12 : h12.size = h9.size := W12.size
  have N12 := Fr.snoc X12 N9 (by omega)
  have f12 : Fld Z h12 am oS0 "root" oS2 (.ref b2) := c10.same W12
  refine own_go (st' := T12.setTop (mkF m 21 #[oR am, oR ak, oR av] [])) (st12) ?_
  refine own_go (st' := T12.setTop (mkF m 22 #[oR am, oR ak, oR av] [(.ref am)])) (fun _ k => XS.aloadN X12.here hx rfl (hb hby d18_21) rfl rfl k) ?_
  refine own_go (st' := T12.setTop (mkF m 23 #[oR am, oR ak, oR av] [(.int (1 : Int32)), (.ref am)])) (fun _ k => XS.iconst X12.here hx rfl (hb hby d18_22) k) ?_
  have c13 : Fld Z h12 am oS0 "size" "I" (.int (0 : Int32)) := (((pr4.ext E2).keep K9 (ninS own_nq nin0)).other W12 (Or.inr (slot_ne (Or.inl (own_hw hw 31)) (Or.inl (own_hw hw 86)) (by decide) (t := .int) (t' := (.object oS1)) (by decide) (by decide))))
  have c14 : Exa Z h12 am oS0 := (c11.wr W12)
  obtain ⟨T15, h15, X15, e15, W15, st15⟩ := putF X12 hx hZ hown (host := "") (Or.inl (own_hw hw 30)) Via.refl e12 c13 c14 (Or.inl (own_hw hw 31)) (own_hw hw 16) (ty := .int) (by decide) rfl rfl (g := (mkF m 23 #[oR am, oR ak, oR av] [(.int (1 : Int32)), (.ref am)])) rfl rfl (hb hby d18_23)
  have sz15 : h15.size = h12.size := W15.size
  have N15 := Fr.snoc X15 N12 (by omega)
  have f15 : Fld Z h15 am oS0 "size" "I" (.int (1 : Int32)) := c13.same W15
  refine own_go (st' := T15.setTop (mkF m 26 #[oR am, oR ak, oR av] [])) (st15) ?_
  refine own_go (st' := T15.setTop (mkF m 27 #[oR am, oR ak, oR av] [(.ref am)])) (fun _ k => XS.aloadN X15.here hx rfl (hb hby d18_26) rfl rfl k) ?_
  refine own_go (st' := T15.setTop (mkF m 28 #[oR am, oR ak, oR av] [(.ref am), (.ref am)])) (fun _ k => XS.dup X15.here hx rfl (hb hby d18_27) rfl rfl k) ?_
  have c16 : Fld Z h15 am oS0 "modCount" "I" (.int (0 : Int32)) := ((((pr5.ext E2).keep K9 (ninS own_nq nin0)).other W12 (Or.inr (slot_ne (Or.inl (own_hw hw 33)) (Or.inl (own_hw hw 86)) (by decide) (t := .int) (t' := (.object oS1)) (by decide) (by decide)))).other W15 (Or.inr (slot_ne (Or.inl (own_hw hw 33)) (Or.inl (own_hw hw 31)) (by decide) (t := .int) (t' := .int) (by decide) (by decide))))
  obtain ⟨T17, X17, e17, st17⟩ := getF X15 hx hZ hown (host := "") (Or.inl (own_hw hw 32)) Via.refl e15 c16 (g := (mkF m 28 #[oR am, oR ak, oR av] [(.ref am), (.ref am)])) rfl rfl (hb hby d18_28)
  refine own_go (st' := T17.setTop (mkF m 31 #[oR am, oR ak, oR av] [(.int (0 : Int32)), (.ref am)])) (st17) ?_
  refine own_go (st' := T17.setTop (mkF m 32 #[oR am, oR ak, oR av] [(.int (1 : Int32)), (.int (0 : Int32)), (.ref am)])) (fun _ k => XS.iconst X17.here hx rfl (hb hby d18_31) k) ?_
  refine own_go (st' := T17.setTop (mkF m 33 #[oR am, oR ak, oR av] [(.int (1 : Int32)), (.ref am)])) (fun _ k => XS.iadd X17.here hx rfl (hb hby d18_32) rfl (by rw [show ((0 : Int32) + (1 : Int32)) = (1 : Int32) by decide]; exact k)) ?_
  have c18 : Exa Z h15 am oS0 := (c14.wr W15)
  obtain ⟨T19, h19, X19, e19, W19, st19⟩ := putF X17 hx hZ hown (host := "") (Or.inl (own_hw hw 32)) Via.refl e17 c16 c18 (Or.inl (own_hw hw 33)) (own_hw hw 16) (ty := .int) (by decide) rfl rfl (g := (mkF m 33 #[oR am, oR ak, oR av] [(.int (1 : Int32)), (.ref am)])) rfl rfl (hb hby d18_33)
  have sz19 : h19.size = h15.size := W19.size
  have N19 := Fr.snoc X19 N15 (by omega)
  have f19 : Fld Z h19 am oS0 "modCount" "I" (.int (1 : Int32)) := c16.same W19
  refine own_go (st' := T19.setTop (mkF m 36 #[oR am, oR ak, oR av] [])) (st19) ?_
  obtain ⟨fs, hr, hrun, hended, hW, hsame⟩ := X19.leave (v := none) (fun _ => rfl)
  refine ⟨_, _, ?_, hP _ _ hrun hended ⟨_, _, rfl, ?_, ⟨_, rfl⟩, hW, hsame.mono (by decide) (by decide)⟩⟩
  · exact X19.returnOut hx Bd.returns (hb hby d18_36) hr
  · show Qrm18 Z am cmp av ak q1 h0 n0 _ T19.heap _
    have c21 : Exa Z h19 am oS0 := (c18.wr W19)
    have c22 : Fld Z h19 am oS0 "comparator" oS6 (.ref cmp) := (((((pr2.ext E2).keep K9 (ninS own_nq nin0)).other W12 (Or.inr (slot_ne (Or.inr (own_hw hw 35)) (Or.inl (own_hw hw 86)) (by decide) (t := (.object oS23)) (t' := (.object oS1)) (by decide) (by decide)))).other W15 (Or.inr (slot_ne (Or.inr (own_hw hw 35)) (Or.inl (own_hw hw 31)) (by decide) (t := (.object oS23)) (t' := .int) (by decide) (by decide)))).other W19 (Or.inr (slot_ne (Or.inr (own_hw hw 35)) (Or.inl (own_hw hw 33)) (by decide) (t := (.object oS23)) (t' := .int) (by decide) (by decide))))
    have c23 : Fld Z h19 am oS0 "root" oS2 (.ref b2) := ((f12.other W15 (Or.inr (slot_ne (Or.inl (own_hw hw 86)) (Or.inl (own_hw hw 31)) (by decide) (t := (.object oS1)) (t' := .int) (by decide) (by decide)))).other W19 (Or.inr (slot_ne (Or.inl (own_hw hw 86)) (Or.inl (own_hw hw 33)) (by decide) (t := (.object oS1)) (t' := .int) (by decide) (by decide))))
    have c24 : Fld Z h19 am oS0 "size" "I" (.int (1 : Int32)) := (f15.other W19 (Or.inr (slot_ne (Or.inl (own_hw hw 31)) (Or.inl (own_hw hw 33)) (by decide) (t := .int) (t' := .int) (by decide) (by decide))))
    have c25 : Fld Z h19 am oS0 oS10 oS11 .null := (((((pr6.ext E2).keep K9 (ninS own_nq nin0)).other W12 (Or.inr (slot_ne (Or.inl (own_hw hw 226)) (Or.inl (own_hw hw 86)) (by decide) (t := (.object oS15)) (t' := (.object oS1)) (by decide) (by decide)))).other W15 (Or.inr (slot_ne (Or.inl (own_hw hw 226)) (Or.inl (own_hw hw 31)) (by decide) (t := (.object oS15)) (t' := .int) (by decide) (by decide)))).other W19 (Or.inr (slot_ne (Or.inl (own_hw hw 226)) (Or.inl (own_hw hw 33)) (by decide) (t := (.object oS15)) (t' := .int) (by decide) (by decide))))
    have c26 : Fld Z h19 am oS0 "entrySet" oS12 .null := (((((pr7.ext E2).keep K9 (ninS own_nq nin0)).other W12 (Or.inr (slot_ne (Or.inl (own_hw hw 333)) (Or.inl (own_hw hw 86)) (by decide) (t := (.object oS14)) (t' := (.object oS1)) (by decide) (by decide)))).other W15 (Or.inr (slot_ne (Or.inl (own_hw hw 333)) (Or.inl (own_hw hw 31)) (by decide) (t := (.object oS14)) (t' := .int) (by decide) (by decide)))).other W19 (Or.inr (slot_ne (Or.inl (own_hw hw 333)) (Or.inl (own_hw hw 33)) (by decide) (t := (.object oS14)) (t' := .int) (by decide) (by decide))))
    have c27 : Exa Z h19 b2 oS1 := (((g9_0.wr W12).wr W15).wr W19)
    have c28 : Fld Z h19 b2 oS1 "key" oS8 (.ref ak) := (((g9_1.other W12 (Or.inl own_nq)).other W15 (Or.inl own_nq)).other W19 (Or.inl own_nq))
    have c29 : Fld Z h19 b2 oS1 "value" oS8 (.ref av) := (((g9_2.other W12 (Or.inl own_nq)).other W15 (Or.inl own_nq)).other W19 (Or.inl own_nq))
    have c30 : Fld Z h19 b2 oS1 "left" oS2 .null := (((g9_3.other W12 (Or.inl own_nq)).other W15 (Or.inl own_nq)).other W19 (Or.inl own_nq))
    have c31 : Fld Z h19 b2 oS1 "right" oS2 .null := (((g9_4.other W12 (Or.inl own_nq)).other W15 (Or.inl own_nq)).other W19 (Or.inl own_nq))
    have c32 : Fld Z h19 b2 oS1 "parent" oS2 .null := (((g9_5.other W12 (Or.inl own_nq)).other W15 (Or.inl own_nq)).other W19 (Or.inl own_nq))
    rw [e19]
    exact ⟨b2, rfl, N19, ((((((Keep.refl h0 [am]).ext E2).trans K9 (allS (P := fun x => x ∈ [am] ∨ h0.size ≤ x) (Or.inr (by omega)) all0)).wr W12 (Or.inl (List.mem_of_getElem? (i := 0) rfl))).wr W15 (Or.inl (List.mem_of_getElem? (i := 0) rfl))).wr W19 (Or.inl (List.mem_of_getElem? (i := 0) rfl))), c21, c22, c23, c24, f19, c25, c26, c27, c28, c29, c30, c31, c32, (by omega)⟩
theorem pd_9 : parseMethodDescriptor "(Ljava/lang/Object;Ljava/lang/Object;)V" = some ⟨[(.object "java/lang/Object"), (.object "java/lang/Object")], none⟩ := by decide +kernel
theorem d17_0 : decode jdk_2729_method_31_code 0 = .ok (.aload_n 0, 1) := by decide +kernel
theorem d17_1 : decode jdk_2729_method_31_code 1 = .ok (.getfield 101, 3) := by decide +kernel
theorem d17_4 : decode jdk_2729_method_31_code 4 = .ok (.astore 4, 2) := by decide +kernel
theorem d17_6 : decode jdk_2729_method_31_code 6 = .ok (.aload 4, 2) := by decide +kernel
theorem d17_8 : decode jdk_2729_method_31_code 8 = .ok (.ifnonnull 11, 3) := by decide +kernel
theorem d17_11 : decode jdk_2729_method_31_code 11 = .ok (.aload_n 0, 1) := by decide +kernel
theorem d17_12 : decode jdk_2729_method_31_code 12 = .ok (.aload_n 1, 1) := by decide +kernel
theorem d17_13 : decode jdk_2729_method_31_code 13 = .ok (.aload_n 2, 1) := by decide +kernel
theorem d17_14 : decode jdk_2729_method_31_code 14 = .ok (.invokevirtual 135, 3) := by decide +kernel
theorem d17_17 : decode jdk_2729_method_31_code 17 = .ok (.aconst_null, 1) := by decide +kernel
theorem d17_18 : decode jdk_2729_method_31_code 18 = .ok (.areturn, 1) := by decide +kernel
theorem pn_17 : plainName "java/util/TreeMap" = true := by first | (simp [plainName, overriddenIn]; done) | decide +kernel
theorem ef_rm17 (m : MethodId) (x0 : Addr) (x1 : Addr) (x2 : Addr) (x3 : Int32) : entryFrame m #[(.ref x0), (.ref x1), (.ref x2), (.int x3)] 10 = mkF m 0 #[.val (.ref x0), .val (.ref x1), .val (.ref x2), .val (.int x3), .unset, .unset, .unset, .unset, .unset, .unset] [] := by first | (simp [entryFrame, mkF, argsToLocals, Value.category]; done) | rfl
def Qrm17 (Z : State) (am : Addr) (cmp : Addr) (av : Addr) (ak : Addr) (q1 : Int64) (h0 : Heap) (n0 : Nat) (v : Option Value) (h : Heap) (L : List Loc) : Prop := ∃ (ae : Addr), (v = some .null) ∧ (Fr n0 L) ∧ (Keep h0 h [am]) ∧ (Exa Z h am "java/util/TreeMap") ∧ (Fld Z h am "java/util/TreeMap" "comparator" "Ljava/util/Comparator;" (.ref cmp)) ∧ (Fld Z h am "java/util/TreeMap" "root" "Ljava/util/TreeMap$Entry;" (.ref ae)) ∧ (Fld Z h am "java/util/TreeMap" "size" "I" (.int (1 : Int32))) ∧ (Fld Z h am "java/util/TreeMap" "modCount" "I" (.int (1 : Int32))) ∧ (Fld Z h am "java/util/TreeMap" "navigableKeySet" "Ljava/util/TreeMap$KeySet;" .null) ∧ (Fld Z h am "java/util/TreeMap" "entrySet" "Ljava/util/TreeMap$EntrySet;" .null) ∧ (Exa Z h ae "java/util/TreeMap$Entry") ∧ (Fld Z h ae "java/util/TreeMap$Entry" "key" "Ljava/lang/Object;" (.ref ak)) ∧ (Fld Z h ae "java/util/TreeMap$Entry" "value" "Ljava/lang/Object;" (.ref av)) ∧ (Fld Z h ae "java/util/TreeMap$Entry" "left" "Ljava/util/TreeMap$Entry;" .null) ∧ (Fld Z h ae "java/util/TreeMap$Entry" "right" "Ljava/util/TreeMap$Entry;" .null) ∧ (Fld Z h ae "java/util/TreeMap$Entry" "parent" "Ljava/util/TreeMap$Entry;" .null) ∧ (h0.size ≤ ae)
set_option maxRecDepth 65536 in
set_option maxHeartbeats 40000000 in
theorem rm17 (l : Launch) (Z : State) (a0 : Array Value) (hw : ∀ d ∈ tables_1, d.before a0 Z = true) (ws : List Jvm.Cond) (am : Addr) (cmp : Addr) (av : Addr) (ak : Addr) (q1 : Int64) (h0 : Heap) (n0 : Nat) (Z0 : n0 ≤ h0.size) (pr1 : Exa Z h0 am oS0) (pr2 : Fld Z h0 am oS0 "comparator" oS6 (.ref cmp)) (pr3 : Fld Z h0 am oS0 "root" oS2 .null) (pr4 : Fld Z h0 am oS0 "size" "I" (.int (0 : Int32))) (pr5 : Fld Z h0 am oS0 "modCount" "I" (.int (0 : Int32))) (pr6 : Fld Z h0 am oS0 oS10 oS11 .null) (pr7 : Fld Z h0 am oS0 "entrySet" oS12 .null) (pr8 : Exa Z h0 ak oS3) (pr9 : Fld Z h0 ak oS3 "value" "J" (.long q1)) (pr10 : Exa Z h0 cmp oS21) (pr11 : n0 ≤ am) (pr12 : own_D am ak) (pr13 : own_D am cmp) :
    MetFree l oM57 (head1 (Jvm.Cond.code oM57 jdk_2729_method_31_code 10 (some (.object oS16)) :: ws) ({ frames := 7, cells := 1, slots := 6, locals := 97 } : Room)) (fun a U => a = #[(.ref am), (.ref ak), (.ref av), (.int (1 : Int32))] ∧ Z.Warmed39 U.vm ∧ U.heap = h0) (fun _ _ _ _ _ => True) (fun _ U o U' => ∃ v L, o = .returned v ∧ Qrm17 Z am cmp av ak q1 h0 n0 v U'.heap L ∧ FrameEnd U o U' L ({ frames := 7, cells := 1, slots := 6, locals := 97 } : Room).cells ({ frames := 7, cells := 1, slots := 6, locals := 97 } : Room).slots) := by
  refine MetFree.of_bodySF (plainFor_of_name pn_17) hisR ?_
  intro p e s m args below meth c s₁ Bd hml0 hP0 hK
  obtain ⟨rfl, hZ, hh⟩ := hP0
  have hx := Bd.exec
  have hby := Bd.bytes
  have hml : c.maxLocals = 10 := hml0
  have hown : s.vm.findClass oS0 = some m.cls := findClass_of_methodNamed Bd.named
  have hnm := (name_of_methodNamed Bd.named Bd.method).1
  have X0 : Stand p l e ({ frames := 7, cells := 1, slots := 6, locals := 97 } : Room) s m #[(.ref am), (.ref ak), (.ref av), (.int (1 : Int32))] below meth c s₁ [] 0 0 := Stand.of_body Bd
  have e0 : s₁.heap = h0 := by rw [← hh, Bd.state]; rfl
  have N0 := Fr.nil n0
  refine own_fin (st' := s₁.setTop (mkF m 0 #[oR am, oR ak, oR av, oi 1, .unset, .unset, .unset, .unset, .unset, .unset] [])) (fun _ k => castTop (ef_rm17 m am ak av (1 : Int32)) k) (fun P hP => ?_)
  have lt_am : @LT.lt Nat _ am h0.size := pr1.lt
  have lt_ak : @LT.lt Nat _ ak h0.size := pr8.lt
  have lt_cmp : @LT.lt Nat _ cmp h0.size := pr10.lt
  refine own_go (st' := s₁.setTop (mkF m 1 #[oR am, oR ak, oR av, oi 1, .unset, .unset, .unset, .unset, .unset, .unset] [(.ref am)])) (fun _ k => XS.aloadN X0.here hx rfl (hb hby d17_0) rfl rfl k) ?_
  obtain ⟨T1, X1, e1, st1⟩ := getF X0 hx hZ hown (host := "") (Or.inl (own_hw hw 85)) Via.refl e0 pr3 (g := (mkF m 1 #[oR am, oR ak, oR av, oi 1, .unset, .unset, .unset, .unset, .unset, .unset] [(.ref am)])) rfl rfl (hb hby d17_1)
  refine own_go (st' := T1.setTop (mkF m 4 #[oR am, oR ak, oR av, oi 1, .unset, .unset, .unset, .unset, .unset, .unset] [.null])) (st1) ?_
  refine own_go (st' := T1.setTop (mkF m 6 #[oR am, oR ak, oR av, oi 1, .val .null, .unset, .unset, .unset, .unset, .unset] [])) (fun _ k => XS.astore X1.here hx rfl (hb hby d17_4) rfl rfl (l' := #[oR am, oR ak, oR av, oi 1, .val .null, .unset, .unset, .unset, .unset, .unset]) rfl k) ?_
  refine own_go (st' := T1.setTop (mkF m 8 #[oR am, oR ak, oR av, oi 1, .val .null, .unset, .unset, .unset, .unset, .unset] [.null])) (fun _ k => XS.aload X1.here hx rfl (hb hby d17_6) rfl rfl k) ?_
  refine own_go (st' := T1.setTop (mkF m 11 #[oR am, oR ak, oR av, oi 1, .val .null, .unset, .unset, .unset, .unset, .unset] [])) (fun _ k => XS.ifnonnullNo X1.here hx rfl (hb hby d17_8) rfl k) ?_
  refine own_go (st' := T1.setTop (mkF m 12 #[oR am, oR ak, oR av, oi 1, .val .null, .unset, .unset, .unset, .unset, .unset] [(.ref am)])) (fun _ k => XS.aloadN X1.here hx rfl (hb hby d17_11) rfl rfl k) ?_
  refine own_go (st' := T1.setTop (mkF m 13 #[oR am, oR ak, oR av, oi 1, .val .null, .unset, .unset, .unset, .unset, .unset] [(.ref ak), (.ref am)])) (fun _ k => XS.aloadN X1.here hx rfl (hb hby d17_12) rfl rfl k) ?_
  refine own_go (st' := T1.setTop (mkF m 14 #[oR am, oR ak, oR av, oi 1, .val .null, .unset, .unset, .unset, .unset, .unset] [(.ref av), (.ref ak), (.ref am)])) (fun _ k => XS.aloadN X1.here hx rfl (hb hby d17_13) rfl rfl k) ?_
  obtain ⟨cq2, qc2, qc2'⟩ := (pr1).cell
  obtain ⟨_, _, ⟨T2, LC2, kC2, nC2⟩, -, X2, ⟨Lc2, hQ2, lq2, yq2, zq2⟩, st2⟩ := X1.privateBack hx (y := oM56) hown (mvT hZ (own_hw hw 129)) (mvT hZ (own_hw hw 130)) (mvT hZ (own_hw hw 132)) (Cond.privateMethod_at (mvP hZ (own_hw hw 131) (args := #[]))) (mvT hZ (own_hw hw 133)) (by decide) (backOf (W := 0) (rm18 l Z a0 hw [] am cmp av ak q1 h0 n0 (by omega) pr1 pr2 pr3 pr4 pr5 pr6 pr7 pr8 pr9 pr10 (by omega) own_nr own_nr) hZ (own_hw hw 133) (own_hw hw 17) (by decide) (by decide)) (g := (mkF m 14 #[oR am, oR ak, oR av, oi 1, .val .null, .unset, .unset, .unset, .unset, .unset] [(.ref av), (.ref ak), (.ref am)])) rfl (by rw [hml]; rfl) (Steps.refl _) (a := am) (by rw [e1]; exact qc2) qc2' (argsL := [(.ref ak), (.ref av)]) (rest := []) (lenOf pd_9 rfl) rfl (by show 2 * 0 + _ ≤ _; exact Nat.le_of_eq rfl) (hb hby d17_14) (fun _ _ => ⟨rfl, e1, (by decide : 0 + 1 ≤ _), (by decide : 0 + 6 ≤ _)⟩)
  dsimp only [Pt.U, Pt.locs, Pt.cells, Pt.slots] at X2 lq2 yq2 zq2 st2 hQ2
  subst lq2 yq2 zq2
  obtain ⟨h2, e2⟩ : ∃ z, T2.heap = z := ⟨_, rfl⟩
  rw [e2] at hQ2
  obtain ⟨ae_2, rfl, Nq2, K2, g2_0, g2_1, g2_2, g2_3, g2_4, g2_5, g2_6, g2_7, g2_8, g2_9, g2_10, g2_11, g2_12, g2_13⟩ := hQ2
  have sz2 : h0.size ≤ h2.size := K2.1
  have N2 := Fr.app N0 Nq2
  have lt2_1 : @LT.lt Nat _ am h2.size := g2_0.lt
  have lt2_2 : @LT.lt Nat _ ae_2 h2.size := g2_7.lt
  refine own_go (st' := T2.setTop (mkF m 17 #[oR am, oR ak, oR av, oi 1, .val .null, .unset, .unset, .unset, .unset, .unset] [])) (fun _ k => st2.trans k) ?_
  refine own_go (st' := T2.setTop (mkF m 18 #[oR am, oR ak, oR av, oi 1, .val .null, .unset, .unset, .unset, .unset, .unset] [.null])) (fun _ k => XS.aconstNull X2.here hx rfl (hb hby d17_17) k) ?_
  obtain ⟨fs, hr, hrun, hended, hW, hsame⟩ := X2.leave (v := some .null) (fun h => by rw [Bd.returns] at h; cases h)
  refine ⟨_, _, ?_, hP _ _ hrun hended ⟨_, _, rfl, ?_, ⟨_, rfl⟩, hW, hsame.mono (by decide) (by decide)⟩⟩
  · exact retOut X2 hx Bd.returns rfl (Or.inr (Or.inr (Or.inr (Or.inr ⟨rfl, rfl, rfl⟩)))) (hb hby d17_18) hr
  · show Qrm17 Z am cmp av ak q1 h0 n0 _ T2.heap _
    rw [e2]
    exact ⟨ae_2, rfl, N2, ((Keep.refl h0 [am]).trans K2 (allS (P := fun x => x ∈ [am] ∨ h0.size ≤ x) (Or.inl (List.mem_of_getElem? (i := 0) rfl)) all0)), g2_0, g2_1, g2_2, g2_3, g2_4, g2_5, g2_6, g2_7, g2_8, g2_9, g2_10, g2_11, g2_12, (by omega)⟩
theorem pd_10 : parseMethodDescriptor "(Ljava/lang/Object;Ljava/lang/Object;Z)Ljava/lang/Object;" = some ⟨[(.object "java/lang/Object"), (.object "java/lang/Object"), .boolean], some (.object "java/lang/Object")⟩ := by decide +kernel
theorem d16_0 : decode jdk_2729_method_21_code 0 = .ok (.aload_n 0, 1) := by decide +kernel
theorem d16_1 : decode jdk_2729_method_21_code 1 = .ok (.aload_n 1, 1) := by decide +kernel
theorem d16_2 : decode jdk_2729_method_21_code 2 = .ok (.aload_n 2, 1) := by decide +kernel
theorem d16_3 : decode jdk_2729_method_21_code 3 = .ok (.iconst 1, 1) := by decide +kernel
theorem d16_4 : decode jdk_2729_method_21_code 4 = .ok (.invokevirtual 127, 3) := by decide +kernel
theorem d16_7 : decode jdk_2729_method_21_code 7 = .ok (.areturn, 1) := by decide +kernel
theorem pn_16 : plainName "java/util/TreeMap" = true := by first | (simp [plainName, overriddenIn]; done) | decide +kernel
theorem ef_rm16 (m : MethodId) (x0 : Addr) (x1 : Addr) (x2 : Addr) : entryFrame m #[(.ref x0), (.ref x1), (.ref x2)] 3 = mkF m 0 #[.val (.ref x0), .val (.ref x1), .val (.ref x2)] [] := by first | (simp [entryFrame, mkF, argsToLocals, Value.category]; done) | rfl
def Qrm16 (Z : State) (am : Addr) (cmp : Addr) (av : Addr) (ak : Addr) (q1 : Int64) (h0 : Heap) (n0 : Nat) (v : Option Value) (h : Heap) (L : List Loc) : Prop := ∃ (ae : Addr), (v = some .null) ∧ (Fr n0 L) ∧ (Keep h0 h [am]) ∧ (Exa Z h am "java/util/TreeMap") ∧ (Fld Z h am "java/util/TreeMap" "comparator" "Ljava/util/Comparator;" (.ref cmp)) ∧ (Fld Z h am "java/util/TreeMap" "root" "Ljava/util/TreeMap$Entry;" (.ref ae)) ∧ (Fld Z h am "java/util/TreeMap" "size" "I" (.int (1 : Int32))) ∧ (Fld Z h am "java/util/TreeMap" "modCount" "I" (.int (1 : Int32))) ∧ (Fld Z h am "java/util/TreeMap" "navigableKeySet" "Ljava/util/TreeMap$KeySet;" .null) ∧ (Fld Z h am "java/util/TreeMap" "entrySet" "Ljava/util/TreeMap$EntrySet;" .null) ∧ (Exa Z h ae "java/util/TreeMap$Entry") ∧ (Fld Z h ae "java/util/TreeMap$Entry" "key" "Ljava/lang/Object;" (.ref ak)) ∧ (Fld Z h ae "java/util/TreeMap$Entry" "value" "Ljava/lang/Object;" (.ref av)) ∧ (Fld Z h ae "java/util/TreeMap$Entry" "left" "Ljava/util/TreeMap$Entry;" .null) ∧ (Fld Z h ae "java/util/TreeMap$Entry" "right" "Ljava/util/TreeMap$Entry;" .null) ∧ (Fld Z h ae "java/util/TreeMap$Entry" "parent" "Ljava/util/TreeMap$Entry;" .null) ∧ (h0.size ≤ ae)
set_option maxRecDepth 65536 in
set_option maxHeartbeats 40000000 in
theorem rm16 (l : Launch) (Z : State) (a0 : Array Value) (hw : ∀ d ∈ tables_1, d.before a0 Z = true) (ws : List Jvm.Cond) (am : Addr) (cmp : Addr) (av : Addr) (ak : Addr) (q1 : Int64) (h0 : Heap) (n0 : Nat) (Z0 : n0 ≤ h0.size) (pr1 : Exa Z h0 am oS0) (pr2 : Fld Z h0 am oS0 "comparator" oS6 (.ref cmp)) (pr3 : Fld Z h0 am oS0 "root" oS2 .null) (pr4 : Fld Z h0 am oS0 "size" "I" (.int (0 : Int32))) (pr5 : Fld Z h0 am oS0 "modCount" "I" (.int (0 : Int32))) (pr6 : Fld Z h0 am oS0 oS10 oS11 .null) (pr7 : Fld Z h0 am oS0 "entrySet" oS12 .null) (pr8 : Exa Z h0 ak oS3) (pr9 : Fld Z h0 ak oS3 "value" "J" (.long q1)) (pr10 : Exa Z h0 cmp oS21) (pr11 : n0 ≤ am) (pr12 : own_D am ak) (pr13 : own_D am cmp) :
    MetFree l oM18 (head1 (Jvm.Cond.code oM18 jdk_2729_method_21_code 3 (some (.object oS16)) :: ws) ({ frames := 8, cells := 1, slots := 6, locals := 118 } : Room)) (fun a U => a = #[(.ref am), (.ref ak), (.ref av)] ∧ Z.Warmed39 U.vm ∧ U.heap = h0) (fun _ _ _ _ _ => True) (fun _ U o U' => ∃ v L, o = .returned v ∧ Qrm16 Z am cmp av ak q1 h0 n0 v U'.heap L ∧ FrameEnd U o U' L ({ frames := 8, cells := 1, slots := 6, locals := 118 } : Room).cells ({ frames := 8, cells := 1, slots := 6, locals := 118 } : Room).slots) := by
  refine MetFree.of_bodySF (plainFor_of_name pn_16) hisR ?_
  intro p e s m args below meth c s₁ Bd hml0 hP0 hK
  obtain ⟨rfl, hZ, hh⟩ := hP0
  have hx := Bd.exec
  have hby := Bd.bytes
  have hml : c.maxLocals = 3 := hml0
  have hown : s.vm.findClass oS0 = some m.cls := findClass_of_methodNamed Bd.named
  have hnm := (name_of_methodNamed Bd.named Bd.method).1
  have X0 : Stand p l e ({ frames := 8, cells := 1, slots := 6, locals := 118 } : Room) s m #[(.ref am), (.ref ak), (.ref av)] below meth c s₁ [] 0 0 := Stand.of_body Bd
  have e0 : s₁.heap = h0 := by rw [← hh, Bd.state]; rfl
  have N0 := Fr.nil n0
  refine own_fin (st' := s₁.setTop (mkF m 0 #[oR am, oR ak, oR av] [])) (fun _ k => castTop (ef_rm16 m am ak av) k) (fun P hP => ?_)
  have lt_am : @LT.lt Nat _ am h0.size := pr1.lt
  have lt_ak : @LT.lt Nat _ ak h0.size := pr8.lt
  have lt_cmp : @LT.lt Nat _ cmp h0.size := pr10.lt
  refine own_go (st' := s₁.setTop (mkF m 1 #[oR am, oR ak, oR av] [(.ref am)])) (fun _ k => XS.aloadN X0.here hx rfl (hb hby d16_0) rfl rfl k) ?_
  refine own_go (st' := s₁.setTop (mkF m 2 #[oR am, oR ak, oR av] [(.ref ak), (.ref am)])) (fun _ k => XS.aloadN X0.here hx rfl (hb hby d16_1) rfl rfl k) ?_
  refine own_go (st' := s₁.setTop (mkF m 3 #[oR am, oR ak, oR av] [(.ref av), (.ref ak), (.ref am)])) (fun _ k => XS.aloadN X0.here hx rfl (hb hby d16_2) rfl rfl k) ?_
  refine own_go (st' := s₁.setTop (mkF m 4 #[oR am, oR ak, oR av] [(.int (1 : Int32)), (.ref av), (.ref ak), (.ref am)])) (fun _ k => XS.iconst X0.here hx rfl (hb hby d16_3) k) ?_
  obtain ⟨cq1, qc1, qc1'⟩ := (pr1).cell
  obtain ⟨_, _, ⟨T1, LC1, kC1, nC1⟩, -, X1, ⟨Lc1, hQ1, lq1, yq1, zq1⟩, st1⟩ := X0.privateBack hx (y := oM57) hown (mvT hZ (own_hw hw 124)) (mvT hZ (own_hw hw 125)) (mvT hZ (own_hw hw 127)) (Cond.privateMethod_at (mvP hZ (own_hw hw 126) (args := #[]))) (mvT hZ (own_hw hw 128)) (by decide) (backOf (W := 0) (rm17 l Z a0 hw [] am cmp av ak q1 h0 n0 (by omega) pr1 pr2 pr3 pr4 pr5 pr6 pr7 pr8 pr9 pr10 (by omega) own_nr own_nr) hZ (own_hw hw 128) (own_hw hw 17) (by decide) (by decide)) (g := (mkF m 4 #[oR am, oR ak, oR av] [(.int (1 : Int32)), (.ref av), (.ref ak), (.ref am)])) rfl (by rw [hml]; rfl) (Steps.refl _) (a := am) (by rw [e0]; exact qc1) qc1' (argsL := [(.ref ak), (.ref av), (.int (1 : Int32))]) (rest := []) (lenOf pd_10 rfl) rfl (by show 2 * 0 + _ ≤ _; exact Nat.le_of_eq rfl) (hb hby d16_4) (fun _ _ => ⟨rfl, e0, (by decide : 0 + 1 ≤ _), (by decide : 0 + 6 ≤ _)⟩)
  dsimp only [Pt.U, Pt.locs, Pt.cells, Pt.slots] at X1 lq1 yq1 zq1 st1 hQ1
  subst lq1 yq1 zq1
  obtain ⟨h1, e1⟩ : ∃ z, T1.heap = z := ⟨_, rfl⟩
  rw [e1] at hQ1
  obtain ⟨ae_1, rfl, Nq1, K1, g1_0, g1_1, g1_2, g1_3, g1_4, g1_5, g1_6, g1_7, g1_8, g1_9, g1_10, g1_11, g1_12, g1_13⟩ := hQ1
  have sz1 : h0.size ≤ h1.size := K1.1
  have N1 := Fr.app N0 Nq1
  have lt1_1 : @LT.lt Nat _ am h1.size := g1_0.lt
  have lt1_2 : @LT.lt Nat _ ae_1 h1.size := g1_7.lt
  refine own_go (st' := T1.setTop (mkF m 7 #[oR am, oR ak, oR av] [.null])) (fun _ k => st1.trans k) ?_
  obtain ⟨fs, hr, hrun, hended, hW, hsame⟩ := X1.leave (v := some .null) (fun h => by rw [Bd.returns] at h; cases h)
  refine ⟨_, _, ?_, hP _ _ hrun hended ⟨_, _, rfl, ?_, ⟨_, rfl⟩, hW, hsame.mono (by decide) (by decide)⟩⟩
  · exact retOut X1 hx Bd.returns rfl (Or.inr (Or.inr (Or.inr (Or.inr ⟨rfl, rfl, rfl⟩)))) (hb hby d16_7) hr
  · show Qrm16 Z am cmp av ak q1 h0 n0 _ T1.heap _
    rw [e1]
    exact ⟨ae_1, rfl, N1, ((Keep.refl h0 [am]).trans K1 (allS (P := fun x => x ∈ [am] ∨ h0.size ≤ x) (Or.inl (List.mem_of_getElem? (i := 0) rfl)) all0)), g1_0, g1_1, g1_2, g1_3, g1_4, g1_5, g1_6, g1_7, g1_8, g1_9, g1_10, g1_11, g1_12, (by omega)⟩
theorem d11_0 : decode jdk_2729_method_16_code 0 = .ok (.aload_n 1, 1) := by decide +kernel
theorem d11_1 : decode jdk_2729_method_16_code 1 = .ok (.astore_n 2, 1) := by decide +kernel
theorem d11_2 : decode jdk_2729_method_16_code 2 = .ok (.aload_n 0, 1) := by decide +kernel
theorem d11_3 : decode jdk_2729_method_16_code 3 = .ok (.getfield 16, 3) := by decide +kernel
theorem d11_6 : decode jdk_2729_method_16_code 6 = .ok (.astore_n 3, 1) := by decide +kernel
theorem d11_7 : decode jdk_2729_method_16_code 7 = .ok (.aload_n 3, 1) := by decide +kernel
theorem d11_8 : decode jdk_2729_method_16_code 8 = .ok (.ifnull 64, 3) := by decide +kernel
theorem d11_11 : decode jdk_2729_method_16_code 11 = .ok (.aload_n 0, 1) := by decide +kernel
theorem d11_12 : decode jdk_2729_method_16_code 12 = .ok (.getfield 101, 3) := by decide +kernel
theorem d11_15 : decode jdk_2729_method_16_code 15 = .ok (.astore 4, 2) := by decide +kernel
theorem d11_17 : decode jdk_2729_method_16_code 17 = .ok (.aload 4, 2) := by decide +kernel
theorem d11_19 : decode jdk_2729_method_16_code 19 = .ok (.ifnull 53, 3) := by decide +kernel
theorem d11_72 : decode jdk_2729_method_16_code 72 = .ok (.aconst_null, 1) := by decide +kernel
theorem d11_73 : decode jdk_2729_method_16_code 73 = .ok (.areturn, 1) := by decide +kernel
theorem pn_11 : plainName "java/util/TreeMap" = true := by first | (simp [plainName, overriddenIn]; done) | decide +kernel
theorem ef_rm11 (m : MethodId) (x0 : Addr) (x1 : Addr) : entryFrame m #[(.ref x0), (.ref x1)] 6 = mkF m 0 #[.val (.ref x0), .val (.ref x1), .unset, .unset, .unset, .unset] [] := by first | (simp [entryFrame, mkF, argsToLocals, Value.category]; done) | rfl
def Qrm11 (Z : State) (am : Addr) (cmp : Addr) (ak : Addr) (h0 : Heap) (n0 : Nat) (v : Option Value) (h : Heap) (L : List Loc) : Prop := (v = some .null) ∧ (Fr n0 L) ∧ (h = h0)
set_option maxRecDepth 65536 in
set_option maxHeartbeats 40000000 in
theorem rm11 (l : Launch) (Z : State) (a0 : Array Value) (hw : ∀ d ∈ tables_1, d.before a0 Z = true) (ws : List Jvm.Cond) (am : Addr) (cmp : Addr) (ak : Addr) (h0 : Heap) (n0 : Nat) (Z0 : n0 ≤ h0.size) (pr1 : Exa Z h0 am oS0) (pr2 : Fld Z h0 am oS0 "comparator" oS6 (.ref cmp)) (pr3 : Fld Z h0 am oS0 "root" oS2 .null) :
    MetFree l oM19 (head1 (Jvm.Cond.code oM19 jdk_2729_method_16_code 6 (some (.object oS1)) :: ws) ({ frames := 0, cells := 0, slots := 0, locals := 0 } : Room)) (fun a U => a = #[(.ref am), (.ref ak)] ∧ Z.Warmed39 U.vm ∧ U.heap = h0) (fun _ _ _ _ _ => True) (fun _ U o U' => ∃ v L, o = .returned v ∧ Qrm11 Z am cmp ak h0 n0 v U'.heap L ∧ FrameEnd U o U' L ({ frames := 0, cells := 0, slots := 0, locals := 0 } : Room).cells ({ frames := 0, cells := 0, slots := 0, locals := 0 } : Room).slots) := by
  refine MetFree.of_bodySF (plainFor_of_name pn_11) hisR ?_
  intro p e s m args below meth c s₁ Bd hml0 hP0 hK
  obtain ⟨rfl, hZ, hh⟩ := hP0
  have hx := Bd.exec
  have hby := Bd.bytes
  have hml : c.maxLocals = 6 := hml0
  have hown : s.vm.findClass oS0 = some m.cls := findClass_of_methodNamed Bd.named
  have hnm := (name_of_methodNamed Bd.named Bd.method).1
  have X0 : Stand p l e ({ frames := 0, cells := 0, slots := 0, locals := 0 } : Room) s m #[(.ref am), (.ref ak)] below meth c s₁ [] 0 0 := Stand.of_body Bd
  have e0 : s₁.heap = h0 := by rw [← hh, Bd.state]; rfl
  have N0 := Fr.nil n0
  refine own_fin (st' := s₁.setTop (mkF m 0 #[oR am, oR ak, .unset, .unset, .unset, .unset] [])) (fun _ k => castTop (ef_rm11 m am ak) k) (fun P hP => ?_)
  have lt_am : @LT.lt Nat _ am h0.size := pr1.lt
  refine own_go (st' := s₁.setTop (mkF m 1 #[oR am, oR ak, .unset, .unset, .unset, .unset] [(.ref ak)])) (fun _ k => XS.aloadN X0.here hx rfl (hb hby d11_0) rfl rfl k) ?_
  refine own_go (st' := s₁.setTop (mkF m 2 #[oR am, oR ak, oR ak, .unset, .unset, .unset] [])) (fun _ k => XS.astoreN X0.here hx rfl (hb hby d11_1) rfl rfl (l' := #[oR am, oR ak, oR ak, .unset, .unset, .unset]) rfl k) ?_
  refine own_go (st' := s₁.setTop (mkF m 3 #[oR am, oR ak, oR ak, .unset, .unset, .unset] [(.ref am)])) (fun _ k => XS.aloadN X0.here hx rfl (hb hby d11_2) rfl rfl k) ?_
  obtain ⟨T1, X1, e1, st1⟩ := getF X0 hx hZ hown (host := "") (Or.inl (own_hw hw 34)) Via.refl e0 pr2 (g := (mkF m 3 #[oR am, oR ak, oR ak, .unset, .unset, .unset] [(.ref am)])) rfl rfl (hb hby d11_3)
  refine own_go (st' := T1.setTop (mkF m 6 #[oR am, oR ak, oR ak, .unset, .unset, .unset] [(.ref cmp)])) (st1) ?_
  refine own_go (st' := T1.setTop (mkF m 7 #[oR am, oR ak, oR ak, oR cmp, .unset, .unset] [])) (fun _ k => XS.astoreN X1.here hx rfl (hb hby d11_6) rfl rfl (l' := #[oR am, oR ak, oR ak, oR cmp, .unset, .unset]) rfl k) ?_
  refine own_go (st' := T1.setTop (mkF m 8 #[oR am, oR ak, oR ak, oR cmp, .unset, .unset] [(.ref cmp)])) (fun _ k => XS.aloadN X1.here hx rfl (hb hby d11_7) rfl rfl k) ?_
  refine own_go (st' := T1.setTop (mkF m 11 #[oR am, oR ak, oR ak, oR cmp, .unset, .unset] [])) (fun _ k => XS.ifnullNo X1.here hx rfl (hb hby d11_8) rfl k) ?_
  refine own_go (st' := T1.setTop (mkF m 12 #[oR am, oR ak, oR ak, oR cmp, .unset, .unset] [(.ref am)])) (fun _ k => XS.aloadN X1.here hx rfl (hb hby d11_11) rfl rfl k) ?_
  obtain ⟨T2, X2, e2, st2⟩ := getF X1 hx hZ hown (host := "") (Or.inl (own_hw hw 85)) Via.refl e1 pr3 (g := (mkF m 12 #[oR am, oR ak, oR ak, oR cmp, .unset, .unset] [(.ref am)])) rfl rfl (hb hby d11_12)
  refine own_go (st' := T2.setTop (mkF m 15 #[oR am, oR ak, oR ak, oR cmp, .unset, .unset] [.null])) (st2) ?_
  refine own_go (st' := T2.setTop (mkF m 17 #[oR am, oR ak, oR ak, oR cmp, .val .null, .unset] [])) (fun _ k => XS.astore X2.here hx rfl (hb hby d11_15) rfl rfl (l' := #[oR am, oR ak, oR ak, oR cmp, .val .null, .unset]) rfl k) ?_
  refine own_go (st' := T2.setTop (mkF m 19 #[oR am, oR ak, oR ak, oR cmp, .val .null, .unset] [.null])) (fun _ k => XS.aload X2.here hx rfl (hb hby d11_17) rfl rfl k) ?_
  refine own_go (st' := T2.setTop (mkF m 72 #[oR am, oR ak, oR ak, oR cmp, .val .null, .unset] [])) (fun _ k => XS.ifnullYes X2.here hx rfl (pc0 := 19) (pc' := 72) rfl (hb hby d11_19) rfl (by decide) (by decide) k) ?_
  refine own_go (st' := T2.setTop (mkF m 73 #[oR am, oR ak, oR ak, oR cmp, .val .null, .unset] [.null])) (fun _ k => XS.aconstNull X2.here hx rfl (hb hby d11_72) k) ?_
  obtain ⟨fs, hr, hrun, hended, hW, hsame⟩ := X2.leave (v := some .null) (fun h => by rw [Bd.returns] at h; cases h)
  refine ⟨_, _, ?_, hP _ _ hrun hended ⟨_, _, rfl, ?_, ⟨_, rfl⟩, hW, hsame.mono (by decide) (by decide)⟩⟩
  · exact retOut X2 hx Bd.returns rfl (Or.inr (Or.inr (Or.inr (Or.inr ⟨rfl, rfl, rfl⟩)))) (hb hby d11_73) hr
  · show Qrm11 Z am cmp ak h0 n0 _ T2.heap _
    rw [e2]
    exact ⟨rfl, N0, rfl⟩
theorem pd_11 : parseMethodDescriptor "(Ljava/lang/Object;)Ljava/util/TreeMap$Entry;" = some ⟨[(.object "java/lang/Object")], some (.object "java/util/TreeMap$Entry")⟩ := by decide +kernel
theorem d10_0 : decode jdk_2729_method_15_code 0 = .ok (.aload_n 0, 1) := by decide +kernel
theorem d10_1 : decode jdk_2729_method_15_code 1 = .ok (.getfield 16, 3) := by decide +kernel
theorem d10_4 : decode jdk_2729_method_15_code 4 = .ok (.ifnull 9, 3) := by decide +kernel
theorem d10_7 : decode jdk_2729_method_15_code 7 = .ok (.aload_n 0, 1) := by decide +kernel
theorem d10_8 : decode jdk_2729_method_15_code 8 = .ok (.aload_n 1, 1) := by decide +kernel
theorem d10_9 : decode jdk_2729_method_15_code 9 = .ok (.invokevirtual 92, 3) := by decide +kernel
theorem d10_12 : decode jdk_2729_method_15_code 12 = .ok (.areturn, 1) := by decide +kernel
theorem pn_10 : plainName "java/util/TreeMap" = true := by first | (simp [plainName, overriddenIn]; done) | decide +kernel
theorem ef_rm10 (m : MethodId) (x0 : Addr) (x1 : Addr) : entryFrame m #[(.ref x0), (.ref x1)] 5 = mkF m 0 #[.val (.ref x0), .val (.ref x1), .unset, .unset, .unset] [] := by first | (simp [entryFrame, mkF, argsToLocals, Value.category]; done) | rfl
def Qrm10 (Z : State) (am : Addr) (cmp : Addr) (ak : Addr) (h0 : Heap) (n0 : Nat) (v : Option Value) (h : Heap) (L : List Loc) : Prop := (v = some .null) ∧ (Fr n0 L) ∧ (h = h0)
set_option maxRecDepth 65536 in
set_option maxHeartbeats 40000000 in
theorem rm10 (l : Launch) (Z : State) (a0 : Array Value) (hw : ∀ d ∈ tables_1, d.before a0 Z = true) (ws : List Jvm.Cond) (am : Addr) (cmp : Addr) (ak : Addr) (h0 : Heap) (n0 : Nat) (Z0 : n0 ≤ h0.size) (pr1 : Exa Z h0 am oS0) (pr2 : Fld Z h0 am oS0 "comparator" oS6 (.ref cmp)) (pr3 : Fld Z h0 am oS0 "root" oS2 .null) :
    MetFree l oM6 (head1 (Jvm.Cond.code oM6 jdk_2729_method_15_code 5 (some (.object oS1)) :: ws) ({ frames := 1, cells := 0, slots := 0, locals := 17 } : Room)) (fun a U => a = #[(.ref am), (.ref ak)] ∧ Z.Warmed39 U.vm ∧ U.heap = h0) (fun _ _ _ _ _ => True) (fun _ U o U' => ∃ v L, o = .returned v ∧ Qrm10 Z am cmp ak h0 n0 v U'.heap L ∧ FrameEnd U o U' L ({ frames := 1, cells := 0, slots := 0, locals := 17 } : Room).cells ({ frames := 1, cells := 0, slots := 0, locals := 17 } : Room).slots) := by
  refine MetFree.of_bodySF (plainFor_of_name pn_10) hisR ?_
  intro p e s m args below meth c s₁ Bd hml0 hP0 hK
  obtain ⟨rfl, hZ, hh⟩ := hP0
  have hx := Bd.exec
  have hby := Bd.bytes
  have hml : c.maxLocals = 5 := hml0
  have hown : s.vm.findClass oS0 = some m.cls := findClass_of_methodNamed Bd.named
  have hnm := (name_of_methodNamed Bd.named Bd.method).1
  have X0 : Stand p l e ({ frames := 1, cells := 0, slots := 0, locals := 17 } : Room) s m #[(.ref am), (.ref ak)] below meth c s₁ [] 0 0 := Stand.of_body Bd
  have e0 : s₁.heap = h0 := by rw [← hh, Bd.state]; rfl
  have N0 := Fr.nil n0
  refine own_fin (st' := s₁.setTop (mkF m 0 #[oR am, oR ak, .unset, .unset, .unset] [])) (fun _ k => castTop (ef_rm10 m am ak) k) (fun P hP => ?_)
  have lt_am : @LT.lt Nat _ am h0.size := pr1.lt
  refine own_go (st' := s₁.setTop (mkF m 1 #[oR am, oR ak, .unset, .unset, .unset] [(.ref am)])) (fun _ k => XS.aloadN X0.here hx rfl (hb hby d10_0) rfl rfl k) ?_
  obtain ⟨T1, X1, e1, st1⟩ := getF X0 hx hZ hown (host := "") (Or.inl (own_hw hw 34)) Via.refl e0 pr2 (g := (mkF m 1 #[oR am, oR ak, .unset, .unset, .unset] [(.ref am)])) rfl rfl (hb hby d10_1)
  refine own_go (st' := T1.setTop (mkF m 4 #[oR am, oR ak, .unset, .unset, .unset] [(.ref cmp)])) (st1) ?_
  refine own_go (st' := T1.setTop (mkF m 7 #[oR am, oR ak, .unset, .unset, .unset] [])) (fun _ k => XS.ifnullNo X1.here hx rfl (hb hby d10_4) rfl k) ?_
  refine own_go (st' := T1.setTop (mkF m 8 #[oR am, oR ak, .unset, .unset, .unset] [(.ref am)])) (fun _ k => XS.aloadN X1.here hx rfl (hb hby d10_7) rfl rfl k) ?_
  refine own_go (st' := T1.setTop (mkF m 9 #[oR am, oR ak, .unset, .unset, .unset] [(.ref ak), (.ref am)])) (fun _ k => XS.aloadN X1.here hx rfl (hb hby d10_8) rfl rfl k) ?_
  obtain ⟨cq2, kq2, q2a, q2b, q2c⟩ := isOf hZ e1 pr1
  obtain ⟨_, _, ⟨T2, LC2, kC2, nC2⟩, -, X2, ⟨Lc2, hQ2, lq2, yq2, zq2⟩, st2⟩ := X1.virtualBack hx (y := oM19) (z := oM19) hown (mvT hZ (own_hw hw 80)) (mvT hZ (own_hw hw 81)) (notFace_of_selects (args := #[]) (mvT hZ (own_hw hw 83))) (mvT hZ (own_hw hw 83)) (mvT hZ (own_hw hw 82)) (by decide) (backOf (W := 0) (rm11 l Z a0 hw [] am cmp ak h0 n0 (by omega) pr1 pr2 pr3) hZ (own_hw hw 84) (own_hw hw 17) (by decide) (by decide)) q2a q2c (g := (mkF m 9 #[oR am, oR ak, .unset, .unset, .unset] [(.ref ak), (.ref am)])) rfl (by rw [hml]; rfl) (Steps.refl _) (argsL := [(.ref ak)]) (rest := []) (lenOf pd_11 rfl) rfl (by show 2 * 0 + _ ≤ _; exact Nat.le_of_eq rfl) (hb hby d10_9) (fun _ _ => ⟨rfl, e1, (by decide : 0 + 0 ≤ _), (by decide : 0 + 0 ≤ _)⟩)
  dsimp only [Pt.U, Pt.locs, Pt.cells, Pt.slots] at X2 lq2 yq2 zq2 st2 hQ2
  subst lq2 yq2 zq2
  obtain ⟨rfl, Nq2, eq2⟩ := hQ2
  have N2 := Fr.app N0 Nq2
  refine own_go (st' := T2.setTop (mkF m 12 #[oR am, oR ak, .unset, .unset, .unset] [.null])) (fun _ k => st2.trans k) ?_
  obtain ⟨fs, hr, hrun, hended, hW, hsame⟩ := X2.leave (v := some .null) (fun h => by rw [Bd.returns] at h; cases h)
  refine ⟨_, _, ?_, hP _ _ hrun hended ⟨_, _, rfl, ?_, ⟨_, rfl⟩, hW, hsame.mono (by decide) (by decide)⟩⟩
  · exact retOut X2 hx Bd.returns rfl (Or.inr (Or.inr (Or.inr (Or.inr ⟨rfl, rfl, rfl⟩)))) (hb hby d10_12) hr
  · show Qrm10 Z am cmp ak h0 n0 _ T2.heap _
    rw [eq2]
    exact ⟨rfl, N2, rfl⟩
theorem d9_0 : decode jdk_2729_method_8_code 0 = .ok (.aload_n 0, 1) := by decide +kernel
theorem d9_1 : decode jdk_2729_method_8_code 1 = .ok (.aload_n 1, 1) := by decide +kernel
theorem d9_2 : decode jdk_2729_method_8_code 2 = .ok (.invokevirtual 50, 3) := by decide +kernel
theorem d9_5 : decode jdk_2729_method_8_code 5 = .ok (.astore_n 2, 1) := by decide +kernel
theorem d9_6 : decode jdk_2729_method_8_code 6 = .ok (.aload_n 2, 1) := by decide +kernel
theorem d9_7 : decode jdk_2729_method_8_code 7 = .ok (.ifnonnull 7, 3) := by decide +kernel
theorem d9_10 : decode jdk_2729_method_8_code 10 = .ok (.aconst_null, 1) := by decide +kernel
theorem d9_11 : decode jdk_2729_method_8_code 11 = .ok (.goto 7, 3) := by decide +kernel
theorem d9_18 : decode jdk_2729_method_8_code 18 = .ok (.areturn, 1) := by decide +kernel
theorem pn_9 : plainName "java/util/TreeMap" = true := by first | (simp [plainName, overriddenIn]; done) | decide +kernel
theorem ef_rm9 (m : MethodId) (x0 : Addr) (x1 : Addr) : entryFrame m #[(.ref x0), (.ref x1)] 3 = mkF m 0 #[.val (.ref x0), .val (.ref x1), .unset] [] := by first | (simp [entryFrame, mkF, argsToLocals, Value.category]; done) | rfl
def Qrm9 (Z : State) (am : Addr) (cmp : Addr) (ak : Addr) (h0 : Heap) (n0 : Nat) (v : Option Value) (h : Heap) (L : List Loc) : Prop := (v = some .null) ∧ (Fr n0 L) ∧ (h = h0)
set_option maxRecDepth 65536 in
set_option maxHeartbeats 40000000 in
theorem rm9 (l : Launch) (Z : State) (a0 : Array Value) (hw : ∀ d ∈ tables_1, d.before a0 Z = true) (ws : List Jvm.Cond) (am : Addr) (cmp : Addr) (ak : Addr) (h0 : Heap) (n0 : Nat) (Z0 : n0 ≤ h0.size) (pr1 : Exa Z h0 am oS0) (pr2 : Fld Z h0 am oS0 "comparator" oS6 (.ref cmp)) (pr3 : Fld Z h0 am oS0 "root" oS2 .null) :
    MetFree l oM58 (head1 (Jvm.Cond.code oM58 jdk_2729_method_8_code 3 (some (.object oS16)) :: ws) ({ frames := 2, cells := 0, slots := 0, locals := 33 } : Room)) (fun a U => a = #[(.ref am), (.ref ak)] ∧ Z.Warmed39 U.vm ∧ U.heap = h0) (fun _ _ _ _ _ => True) (fun _ U o U' => ∃ v L, o = .returned v ∧ Qrm9 Z am cmp ak h0 n0 v U'.heap L ∧ FrameEnd U o U' L ({ frames := 2, cells := 0, slots := 0, locals := 33 } : Room).cells ({ frames := 2, cells := 0, slots := 0, locals := 33 } : Room).slots) := by
  refine MetFree.of_bodySF (plainFor_of_name pn_9) hisR ?_
  intro p e s m args below meth c s₁ Bd hml0 hP0 hK
  obtain ⟨rfl, hZ, hh⟩ := hP0
  have hx := Bd.exec
  have hby := Bd.bytes
  have hml : c.maxLocals = 3 := hml0
  have hown : s.vm.findClass oS0 = some m.cls := findClass_of_methodNamed Bd.named
  have hnm := (name_of_methodNamed Bd.named Bd.method).1
  have X0 : Stand p l e ({ frames := 2, cells := 0, slots := 0, locals := 33 } : Room) s m #[(.ref am), (.ref ak)] below meth c s₁ [] 0 0 := Stand.of_body Bd
  have e0 : s₁.heap = h0 := by rw [← hh, Bd.state]; rfl
  have N0 := Fr.nil n0
  refine own_fin (st' := s₁.setTop (mkF m 0 #[oR am, oR ak, .unset] [])) (fun _ k => castTop (ef_rm9 m am ak) k) (fun P hP => ?_)
  have lt_am : @LT.lt Nat _ am h0.size := pr1.lt
  refine own_go (st' := s₁.setTop (mkF m 1 #[oR am, oR ak, .unset] [(.ref am)])) (fun _ k => XS.aloadN X0.here hx rfl (hb hby d9_0) rfl rfl k) ?_
  refine own_go (st' := s₁.setTop (mkF m 2 #[oR am, oR ak, .unset] [(.ref ak), (.ref am)])) (fun _ k => XS.aloadN X0.here hx rfl (hb hby d9_1) rfl rfl k) ?_
  obtain ⟨cq1, kq1, q1a, q1b, q1c⟩ := isOf hZ e0 pr1
  obtain ⟨_, _, ⟨T1, LC1, kC1, nC1⟩, -, X1, ⟨Lc1, hQ1, lq1, yq1, zq1⟩, st1⟩ := X0.virtualBack hx (y := oM6) (z := oM6) hown (mvT hZ (own_hw hw 75)) (mvT hZ (own_hw hw 76)) (notFace_of_selects (args := #[]) (mvT hZ (own_hw hw 78))) (mvT hZ (own_hw hw 78)) (mvT hZ (own_hw hw 77)) (by decide) (backOf (W := 0) (rm10 l Z a0 hw [] am cmp ak h0 n0 (by omega) pr1 pr2 pr3) hZ (own_hw hw 79) (own_hw hw 17) (by decide) (by decide)) q1a q1c (g := (mkF m 2 #[oR am, oR ak, .unset] [(.ref ak), (.ref am)])) rfl (by rw [hml]; rfl) (Steps.refl _) (argsL := [(.ref ak)]) (rest := []) (lenOf pd_11 rfl) rfl (by show 2 * 0 + _ ≤ _; exact Nat.le_of_eq rfl) (hb hby d9_2) (fun _ _ => ⟨rfl, e0, (by decide : 0 + 0 ≤ _), (by decide : 0 + 0 ≤ _)⟩)
  dsimp only [Pt.U, Pt.locs, Pt.cells, Pt.slots] at X1 lq1 yq1 zq1 st1 hQ1
  subst lq1 yq1 zq1
  obtain ⟨rfl, Nq1, eq1⟩ := hQ1
  have N1 := Fr.app N0 Nq1
  refine own_go (st' := T1.setTop (mkF m 5 #[oR am, oR ak, .unset] [.null])) (fun _ k => st1.trans k) ?_
  refine own_go (st' := T1.setTop (mkF m 6 #[oR am, oR ak, .val .null] [])) (fun _ k => XS.astoreN X1.here hx rfl (hb hby d9_5) rfl rfl (l' := #[oR am, oR ak, .val .null]) rfl k) ?_
  refine own_go (st' := T1.setTop (mkF m 7 #[oR am, oR ak, .val .null] [.null])) (fun _ k => XS.aloadN X1.here hx rfl (hb hby d9_6) rfl rfl k) ?_
  refine own_go (st' := T1.setTop (mkF m 10 #[oR am, oR ak, .val .null] [])) (fun _ k => XS.ifnonnullNo X1.here hx rfl (hb hby d9_7) rfl k) ?_
  refine own_go (st' := T1.setTop (mkF m 11 #[oR am, oR ak, .val .null] [.null])) (fun _ k => XS.aconstNull X1.here hx rfl (hb hby d9_10) k) ?_
  refine own_go (st' := T1.setTop (mkF m 18 #[oR am, oR ak, .val .null] [.null])) (fun _ k => XS.goto X1.here hx rfl (pc0 := 11) (pc' := 18) rfl (hb hby d9_11) (by decide) (by decide) k) ?_
  obtain ⟨fs, hr, hrun, hended, hW, hsame⟩ := X1.leave (v := some .null) (fun h => by rw [Bd.returns] at h; cases h)
  refine ⟨_, _, ?_, hP _ _ hrun hended ⟨_, _, rfl, ?_, ⟨_, rfl⟩, hW, hsame.mono (by decide) (by decide)⟩⟩
  · exact retOut X1 hx Bd.returns rfl (Or.inr (Or.inr (Or.inr (Or.inr ⟨rfl, rfl, rfl⟩)))) (hb hby d9_18) hr
  · show Qrm9 Z am cmp ak h0 n0 _ T1.heap _
    rw [eq1]
    exact ⟨rfl, N1, rfl⟩
theorem d12_0 : decode jdk_2729_method_6_code 0 = .ok (.aload_n 0, 1) := by decide +kernel
theorem d12_1 : decode jdk_2729_method_6_code 1 = .ok (.aload_n 1, 1) := by decide +kernel
theorem d12_2 : decode jdk_2729_method_6_code 2 = .ok (.invokevirtual 50, 3) := by decide +kernel
theorem d12_5 : decode jdk_2729_method_6_code 5 = .ok (.ifnull 7, 3) := by decide +kernel
theorem d12_12 : decode jdk_2729_method_6_code 12 = .ok (.iconst 0, 1) := by decide +kernel
theorem d12_13 : decode jdk_2729_method_6_code 13 = .ok (.ireturn, 1) := by decide +kernel
theorem pn_12 : plainName "java/util/TreeMap" = true := by first | (simp [plainName, overriddenIn]; done) | decide +kernel
theorem ef_rm12 (m : MethodId) (x0 : Addr) (x1 : Addr) : entryFrame m #[(.ref x0), (.ref x1)] 2 = mkF m 0 #[.val (.ref x0), .val (.ref x1)] [] := by first | (simp [entryFrame, mkF, argsToLocals, Value.category]; done) | rfl
def Qrm12 (Z : State) (am : Addr) (cmp : Addr) (ak : Addr) (h0 : Heap) (n0 : Nat) (v : Option Value) (h : Heap) (L : List Loc) : Prop := (v = some (.int (0 : Int32))) ∧ (Fr n0 L) ∧ (h = h0)
set_option maxRecDepth 65536 in
set_option maxHeartbeats 40000000 in
theorem rm12 (l : Launch) (Z : State) (a0 : Array Value) (hw : ∀ d ∈ tables_1, d.before a0 Z = true) (ws : List Jvm.Cond) (am : Addr) (cmp : Addr) (ak : Addr) (h0 : Heap) (n0 : Nat) (Z0 : n0 ≤ h0.size) (pr1 : Exa Z h0 am oS0) (pr2 : Fld Z h0 am oS0 "comparator" oS6 (.ref cmp)) (pr3 : Fld Z h0 am oS0 "root" oS2 .null) :
    MetFree l oM59 (head1 (Jvm.Cond.code oM59 jdk_2729_method_6_code 2 (some .boolean) :: ws) ({ frames := 2, cells := 0, slots := 0, locals := 33 } : Room)) (fun a U => a = #[(.ref am), (.ref ak)] ∧ Z.Warmed39 U.vm ∧ U.heap = h0) (fun _ _ _ _ _ => True) (fun _ U o U' => ∃ v L, o = .returned v ∧ Qrm12 Z am cmp ak h0 n0 v U'.heap L ∧ FrameEnd U o U' L ({ frames := 2, cells := 0, slots := 0, locals := 33 } : Room).cells ({ frames := 2, cells := 0, slots := 0, locals := 33 } : Room).slots) := by
  refine MetFree.of_bodySF (plainFor_of_name pn_12) hisR ?_
  intro p e s m args below meth c s₁ Bd hml0 hP0 hK
  obtain ⟨rfl, hZ, hh⟩ := hP0
  have hx := Bd.exec
  have hby := Bd.bytes
  have hml : c.maxLocals = 2 := hml0
  have hown : s.vm.findClass oS0 = some m.cls := findClass_of_methodNamed Bd.named
  have hnm := (name_of_methodNamed Bd.named Bd.method).1
  have X0 : Stand p l e ({ frames := 2, cells := 0, slots := 0, locals := 33 } : Room) s m #[(.ref am), (.ref ak)] below meth c s₁ [] 0 0 := Stand.of_body Bd
  have e0 : s₁.heap = h0 := by rw [← hh, Bd.state]; rfl
  have N0 := Fr.nil n0
  refine own_fin (st' := s₁.setTop (mkF m 0 #[oR am, oR ak] [])) (fun _ k => castTop (ef_rm12 m am ak) k) (fun P hP => ?_)
  have lt_am : @LT.lt Nat _ am h0.size := pr1.lt
  refine own_go (st' := s₁.setTop (mkF m 1 #[oR am, oR ak] [(.ref am)])) (fun _ k => XS.aloadN X0.here hx rfl (hb hby d12_0) rfl rfl k) ?_
  refine own_go (st' := s₁.setTop (mkF m 2 #[oR am, oR ak] [(.ref ak), (.ref am)])) (fun _ k => XS.aloadN X0.here hx rfl (hb hby d12_1) rfl rfl k) ?_
  obtain ⟨cq1, kq1, q1a, q1b, q1c⟩ := isOf hZ e0 pr1
  obtain ⟨_, _, ⟨T1, LC1, kC1, nC1⟩, -, X1, ⟨Lc1, hQ1, lq1, yq1, zq1⟩, st1⟩ := X0.virtualBack hx (y := oM6) (z := oM6) hown (mvT hZ (own_hw hw 75)) (mvT hZ (own_hw hw 76)) (notFace_of_selects (args := #[]) (mvT hZ (own_hw hw 78))) (mvT hZ (own_hw hw 78)) (mvT hZ (own_hw hw 77)) (by decide) (backOf (W := 0) (rm10 l Z a0 hw [] am cmp ak h0 n0 (by omega) pr1 pr2 pr3) hZ (own_hw hw 79) (own_hw hw 17) (by decide) (by decide)) q1a q1c (g := (mkF m 2 #[oR am, oR ak] [(.ref ak), (.ref am)])) rfl (by rw [hml]; rfl) (Steps.refl _) (argsL := [(.ref ak)]) (rest := []) (lenOf pd_11 rfl) rfl (by show 2 * 0 + _ ≤ _; exact Nat.le_of_eq rfl) (hb hby d12_2) (fun _ _ => ⟨rfl, e0, (by decide : 0 + 0 ≤ _), (by decide : 0 + 0 ≤ _)⟩)
  dsimp only [Pt.U, Pt.locs, Pt.cells, Pt.slots] at X1 lq1 yq1 zq1 st1 hQ1
  subst lq1 yq1 zq1
  obtain ⟨rfl, Nq1, eq1⟩ := hQ1
  have N1 := Fr.app N0 Nq1
  refine own_go (st' := T1.setTop (mkF m 5 #[oR am, oR ak] [.null])) (fun _ k => st1.trans k) ?_
  refine own_go (st' := T1.setTop (mkF m 12 #[oR am, oR ak] [])) (fun _ k => XS.ifnullYes X1.here hx rfl (pc0 := 5) (pc' := 12) rfl (hb hby d12_5) rfl (by decide) (by decide) k) ?_
  refine own_go (st' := T1.setTop (mkF m 13 #[oR am, oR ak] [(.int (0 : Int32))])) (fun _ k => XS.iconst X1.here hx rfl (hb hby d12_12) k) ?_
  obtain ⟨fs, hr, hrun, hended, hW, hsame⟩ := X1.leave (v := some (.int (0 : Int32))) (fun h => by rw [Bd.returns] at h; cases h)
  refine ⟨_, _, ?_, hP _ _ hrun hended ⟨_, _, rfl, ?_, ⟨_, rfl⟩, hW, hsame.mono (by decide) (by decide)⟩⟩
  · exact retN X1 hx (t := .boolean) Bd.returns (by simp) (hb hby d12_13) hr
  · show Qrm12 Z am cmp ak h0 n0 _ T1.heap _
    rw [eq1]
    exact ⟨rfl, N1, rfl⟩
theorem pd_12 : parseMethodDescriptor "(Ljava/lang/Object;)Ljava/lang/Object;" = some ⟨[(.object "java/lang/Object")], some (.object "java/lang/Object")⟩ := by decide +kernel
theorem pd_13 : parseMethodDescriptor "(Ljava/lang/Object;)Z" = some ⟨[(.object "java/lang/Object")], some .boolean⟩ := by decide +kernel
theorem d8_0 : decode jdk_72_method_15_code 0 = .ok (.aload_n 0, 1) := by decide +kernel
theorem d8_1 : decode jdk_72_method_15_code 1 = .ok (.aload_n 1, 1) := by decide +kernel
theorem d8_2 : decode jdk_72_method_15_code 2 = .ok (.invokeinterface 1 2, 5) := by decide +kernel
theorem d8_7 : decode jdk_72_method_15_code 7 = .ok (.dup, 1) := by decide +kernel
theorem d8_8 : decode jdk_72_method_15_code 8 = .ok (.astore_n 3, 1) := by decide +kernel
theorem d8_9 : decode jdk_72_method_15_code 9 = .ok (.ifnonnull 13, 3) := by decide +kernel
theorem d8_12 : decode jdk_72_method_15_code 12 = .ok (.aload_n 0, 1) := by decide +kernel
theorem d8_13 : decode jdk_72_method_15_code 13 = .ok (.aload_n 1, 1) := by decide +kernel
theorem d8_14 : decode jdk_72_method_15_code 14 = .ok (.invokeinterface 7 2, 5) := by decide +kernel
theorem d8_19 : decode jdk_72_method_15_code 19 = .ok (.ifCond .eq 7, 3) := by decide +kernel
theorem d8_26 : decode jdk_72_method_15_code 26 = .ok (.aload_n 2, 1) := by decide +kernel
theorem d8_27 : decode jdk_72_method_15_code 27 = .ok (.areturn, 1) := by decide +kernel
theorem pn_8 : plainName "java/util/Map" = true := by first | (simp [plainName, overriddenIn]; done) | decide +kernel
theorem ef_rm8 (m : MethodId) (x0 : Addr) (x1 : Addr) (x2 : Addr) : entryFrame m #[(.ref x0), (.ref x1), (.ref x2)] 4 = mkF m 0 #[.val (.ref x0), .val (.ref x1), .val (.ref x2), .unset] [] := by first | (simp [entryFrame, mkF, argsToLocals, Value.category]; done) | rfl
def Qrm8 (Z : State) (am : Addr) (cmp : Addr) (ak : Addr) (ad : Addr) (h0 : Heap) (n0 : Nat) (v : Option Value) (h : Heap) (L : List Loc) : Prop := (v = some (.ref ad)) ∧ (Fr n0 L) ∧ (h = h0)
set_option maxRecDepth 65536 in
set_option maxHeartbeats 40000000 in
theorem rm8 (l : Launch) (Z : State) (a0 : Array Value) (hw : ∀ d ∈ tables_1, d.before a0 Z = true) (ws : List Jvm.Cond) (am : Addr) (cmp : Addr) (ak : Addr) (ad : Addr) (h0 : Heap) (n0 : Nat) (Z0 : n0 ≤ h0.size) (pr1 : Exa Z h0 am oS0) (pr2 : Fld Z h0 am oS0 "comparator" oS6 (.ref cmp)) (pr3 : Fld Z h0 am oS0 "root" oS2 .null) :
    own_MetN l oM10 ({ frames := 3, cells := 0, slots := 0, locals := 47 } : Room) jdk_72_method_15_code 4 (some (.object oS16)) (fun a U => a = #[(.ref am), (.ref ak), (.ref ad)] ∧ Z.Warmed39 U.vm ∧ U.heap = h0) (fun _ U o U' => ∃ v L, o = .returned v ∧ Qrm8 Z am cmp ak ad h0 n0 v U'.heap L ∧ FrameEnd U o U' L ({ frames := 3, cells := 0, slots := 0, locals := 47 } : Room).cells ({ frames := 3, cells := 0, slots := 0, locals := 47 } : Room).slots) := by
  intro p e s m args below meth c s₁ Bd hml0 hP0
  have hlk := Bd.notSynchronized
  obtain ⟨rfl, hZ, hh⟩ := hP0
  have hx := Bd.exec
  have hby := Bd.bytes
  have hml : c.maxLocals = 4 := hml0
  have hown : s.vm.findClass oS27 = some m.cls := findClass_of_methodNamed Bd.named
  have hnm := (name_of_methodNamed Bd.named Bd.method).1
  have X0 : Stand p l e ({ frames := 3, cells := 0, slots := 0, locals := 47 } : Room) s m #[(.ref am), (.ref ak), (.ref ad)] below meth c s₁ [] 0 0 := Bd.stand
  have e0 : s₁.heap = h0 := by rw [← hh, Bd.heap]
  have N0 := Fr.nil n0
  refine own_fin (st' := s₁.setTop (mkF m 0 #[oR am, oR ak, oR ad, .unset] [])) (fun _ k => castTop (ef_rm8 m am ak ad) k) (fun P hP => ?_)
  have lt_am : @LT.lt Nat _ am h0.size := pr1.lt
  refine own_go (st' := s₁.setTop (mkF m 1 #[oR am, oR ak, oR ad, .unset] [(.ref am)])) (fun _ k => XS.aloadN X0.here hx rfl (hb hby d8_0) rfl rfl k) ?_
  refine own_go (st' := s₁.setTop (mkF m 2 #[oR am, oR ak, oR ad, .unset] [(.ref ak), (.ref am)])) (fun _ k => XS.aloadN X0.here hx rfl (hb hby d8_1) rfl rfl k) ?_
  obtain ⟨cq1, kq1, q1a, q1b, q1c⟩ := isOf hZ e0 pr1
  obtain ⟨_, _, ⟨T1, LC1, kC1, nC1⟩, -, X1, ⟨Lc1, hQ1, lq1, yq1, zq1⟩, st1⟩ := X0.interfaceBack hx (xi := (⟨oS27, "get", "(Ljava/lang/Object;)Ljava/lang/Object;"⟩ : MethodName)) (y := oM58) hown (mvT hZ (own_hw hw 67)) (mvT hZ (own_hw hw 68)) (mvT hZ (own_hw hw 69)) (mvT hZ (own_hw hw 70)) (mvT hZ (own_hw hw 71)) (mvT hZ (own_hw hw 72)) (mvT hZ (own_hw hw 73)) (mvT hZ (own_hw hw 65)) (by decide) (backOf (W := 0) (rm9 l Z a0 hw [] am cmp ak h0 n0 (by omega) pr1 pr2 pr3) hZ (own_hw hw 74) (own_hw hw 17) (by decide) (by decide)) q1a q1b q1c (g := (mkF m 2 #[oR am, oR ak, oR ad, .unset] [(.ref ak), (.ref am)])) rfl (by rw [hml]; rfl) (Steps.refl _) (argsL := [(.ref ak)]) (rest := []) (lenOf pd_12 rfl) rfl (by show 2 * 0 + _ ≤ _; exact Nat.le_of_eq rfl) (hb hby d8_2) (fun _ _ => ⟨rfl, e0, (by decide : 0 + 0 ≤ _), (by decide : 0 + 0 ≤ _)⟩)
  dsimp only [Pt.U, Pt.locs, Pt.cells, Pt.slots] at X1 lq1 yq1 zq1 st1 hQ1
  subst lq1 yq1 zq1
  obtain ⟨rfl, Nq1, eq1⟩ := hQ1
  have N1 := Fr.app N0 Nq1
  refine own_go (st' := T1.setTop (mkF m 7 #[oR am, oR ak, oR ad, .unset] [.null])) (fun _ k => st1.trans k) ?_
  refine own_go (st' := T1.setTop (mkF m 8 #[oR am, oR ak, oR ad, .unset] [.null, .null])) (fun _ k => XS.dup X1.here hx rfl (hb hby d8_7) rfl rfl k) ?_
  refine own_go (st' := T1.setTop (mkF m 9 #[oR am, oR ak, oR ad, .val .null] [.null])) (fun _ k => XS.astoreN X1.here hx rfl (hb hby d8_8) rfl rfl (l' := #[oR am, oR ak, oR ad, .val .null]) rfl k) ?_
  refine own_go (st' := T1.setTop (mkF m 12 #[oR am, oR ak, oR ad, .val .null] [])) (fun _ k => XS.ifnonnullNo X1.here hx rfl (hb hby d8_9) rfl k) ?_
  refine own_go (st' := T1.setTop (mkF m 13 #[oR am, oR ak, oR ad, .val .null] [(.ref am)])) (fun _ k => XS.aloadN X1.here hx rfl (hb hby d8_12) rfl rfl k) ?_
  refine own_go (st' := T1.setTop (mkF m 14 #[oR am, oR ak, oR ad, .val .null] [(.ref ak), (.ref am)])) (fun _ k => XS.aloadN X1.here hx rfl (hb hby d8_13) rfl rfl k) ?_
  obtain ⟨cq2, kq2, q2a, q2b, q2c⟩ := isOf hZ eq1 pr1
  obtain ⟨_, _, ⟨T2, LC2, kC2, nC2⟩, -, X2, ⟨Lc2, hQ2, lq2, yq2, zq2⟩, st2⟩ := X1.interfaceBack hx (xi := (⟨oS27, "containsKey", "(Ljava/lang/Object;)Z"⟩ : MethodName)) (y := oM59) hown (mvT hZ (own_hw hw 87)) (mvT hZ (own_hw hw 88)) (mvT hZ (own_hw hw 89)) (mvT hZ (own_hw hw 90)) (mvT hZ (own_hw hw 91)) (mvT hZ (own_hw hw 92)) (mvT hZ (own_hw hw 93)) (mvT hZ (own_hw hw 65)) (by decide) (backOf (W := 0) (rm12 l Z a0 hw [] am cmp ak h0 n0 (by omega) pr1 pr2 pr3) hZ (own_hw hw 94) (own_hw hw 17) (by decide) (by decide)) q2a q2b q2c (g := (mkF m 14 #[oR am, oR ak, oR ad, .val .null] [(.ref ak), (.ref am)])) rfl (by rw [hml]; rfl) (Steps.refl _) (argsL := [(.ref ak)]) (rest := []) (lenOf pd_13 rfl) rfl (by show 2 * 0 + _ ≤ _; exact Nat.le_of_eq rfl) (hb hby d8_14) (fun _ _ => ⟨rfl, eq1, (by decide : 0 + 0 ≤ _), (by decide : 0 + 0 ≤ _)⟩)
  dsimp only [Pt.U, Pt.locs, Pt.cells, Pt.slots] at X2 lq2 yq2 zq2 st2 hQ2
  subst lq2 yq2 zq2
  obtain ⟨rfl, Nq2, eq2⟩ := hQ2
  have N2 := Fr.app N1 Nq2
  refine own_go (st' := T2.setTop (mkF m 19 #[oR am, oR ak, oR ad, .val .null] [(.int (0 : Int32))])) (fun _ k => st2.trans k) ?_
  have hc3 : (0 : Int32) = (0 : Int32) := by decide
  refine own_go (st' := T2.setTop (mkF m 26 #[oR am, oR ak, oR ad, .val .null] [])) (fun _ k => XS.ifYes X2.here hx rfl (pc0 := 19) (pc' := 26) rfl (hb hby d8_19) rfl ((if0 _ _).trans (teq hc3).1) (by decide) (by decide) k) ?_
  refine own_go (st' := T2.setTop (mkF m 27 #[oR am, oR ak, oR ad, .val .null] [(.ref ad)])) (fun _ k => XS.aloadN X2.here hx rfl (hb hby d8_26) rfl rfl k) ?_
  obtain ⟨fs, hr, hrun, hended, hW, hsame⟩ := X2.leave (v := some (.ref ad)) (fun h => by rw [Bd.returns] at h; cases h)
  refine ⟨_, _, ?_, hP _ _ hrun hended ⟨_, _, rfl, ?_, ⟨_, rfl⟩, hW, hsame.mono (by decide) (by decide)⟩⟩
  · exact retOut X2 hx Bd.returns rfl (Or.inr (Or.inr (Or.inr (Or.inr ⟨rfl, rfl, rfl⟩)))) (hb hby d8_27) hr
  · show Qrm8 Z am cmp ak ad h0 n0 _ T2.heap _
    rw [eq2]
    exact ⟨rfl, N2, rfl⟩
theorem d13_0 : decode jdk_35_method_31_code 0 = .ok (.aload_n 0, 1) := by decide +kernel
theorem d13_1 : decode jdk_35_method_31_code 1 = .ok (.getfield 273, 3) := by decide +kernel
theorem d13_4 : decode jdk_35_method_31_code 4 = .ok (.lreturn, 1) := by decide +kernel
theorem pn_13 : plainName "java/lang/Long" = true := by first | (simp [plainName, overriddenIn]; done) | decide +kernel
theorem ef_rm13 (m : MethodId) (x0 : Addr) : entryFrame m #[(.ref x0)] 1 = mkF m 0 #[.val (.ref x0)] [] := by first | (simp [entryFrame, mkF, argsToLocals, Value.category]; done) | rfl
def Qrm13 (Z : State) (ak : Addr) (q1 : Int64) (h0 : Heap) (n0 : Nat) (v : Option Value) (h : Heap) (L : List Loc) : Prop := (v = some (.long q1)) ∧ (Fr n0 L) ∧ (h = h0)
set_option maxRecDepth 65536 in
set_option maxHeartbeats 40000000 in
theorem rm13 (l : Launch) (Z : State) (a0 : Array Value) (hw : ∀ d ∈ tables_1, d.before a0 Z = true) (ws : List Jvm.Cond) (ak : Addr) (q1 : Int64) (h0 : Heap) (n0 : Nat) (Z0 : n0 ≤ h0.size) (pr1 : Exa Z h0 ak oS3) (pr2 : Fld Z h0 ak oS3 "value" "J" (.long q1)) :
    MetFree l oM0 (head1 (Jvm.Cond.code oM0 jdk_35_method_31_code 1 (some .long) :: ws) ({ frames := 0, cells := 0, slots := 0, locals := 0 } : Room)) (fun a U => a = #[(.ref ak)] ∧ Z.Warmed39 U.vm ∧ U.heap = h0) (fun _ _ _ _ _ => True) (fun _ U o U' => ∃ v L, o = .returned v ∧ Qrm13 Z ak q1 h0 n0 v U'.heap L ∧ FrameEnd U o U' L ({ frames := 0, cells := 0, slots := 0, locals := 0 } : Room).cells ({ frames := 0, cells := 0, slots := 0, locals := 0 } : Room).slots) := by
  refine MetFree.of_bodySF (plainFor_of_name pn_13) hisR ?_
  intro p e s m args below meth c s₁ Bd hml0 hP0 hK
  obtain ⟨rfl, hZ, hh⟩ := hP0
  have hx := Bd.exec
  have hby := Bd.bytes
  have hml : c.maxLocals = 1 := hml0
  have hown : s.vm.findClass oS3 = some m.cls := findClass_of_methodNamed Bd.named
  have hnm := (name_of_methodNamed Bd.named Bd.method).1
  have X0 : Stand p l e ({ frames := 0, cells := 0, slots := 0, locals := 0 } : Room) s m #[(.ref ak)] below meth c s₁ [] 0 0 := Stand.of_body Bd
  have e0 : s₁.heap = h0 := by rw [← hh, Bd.state]; rfl
  have N0 := Fr.nil n0
  refine own_fin (st' := s₁.setTop (mkF m 0 #[oR ak] [])) (fun _ k => castTop (ef_rm13 m ak) k) (fun P hP => ?_)
  have lt_ak : @LT.lt Nat _ ak h0.size := pr1.lt
  refine own_go (st' := s₁.setTop (mkF m 1 #[oR ak] [(.ref ak)])) (fun _ k => XS.aloadN X0.here hx rfl (hb hby d13_0) rfl rfl k) ?_
  obtain ⟨T1, X1, e1, st1⟩ := getF X0 hx hZ hown (host := "") (Or.inl (own_hw hw 102)) Via.refl e0 pr2 (g := (mkF m 1 #[oR ak] [(.ref ak)])) rfl rfl (hb hby d13_1)
  refine own_go (st' := T1.setTop (mkF m 4 #[oR ak] [(.long q1)])) (st1) ?_
  obtain ⟨fs, hr, hrun, hended, hW, hsame⟩ := X1.leave (v := some (.long q1)) (fun h => by rw [Bd.returns] at h; cases h)
  refine ⟨_, _, ?_, hP _ _ hrun hended ⟨_, _, rfl, ?_, ⟨_, rfl⟩, hW, hsame.mono (by decide) (by decide)⟩⟩
  · exact retOut X1 hx Bd.returns rfl (Or.inr (Or.inl ⟨rfl, rfl, _, rfl⟩)) (hb hby d13_4) hr
  · show Qrm13 Z ak q1 h0 n0 _ T1.heap _
    rw [e1]
    exact ⟨rfl, N0, rfl⟩
theorem pd_14 : parseMethodDescriptor "(J)Ljava/lang/Long;" = some ⟨[.long], some (.object "java/lang/Long")⟩ := by decide +kernel
theorem pd_15 : parseMethodDescriptor "(Ljava/lang/Object;Ljava/lang/Object;)Ljava/lang/Object;" = some ⟨[(.object "java/lang/Object"), (.object "java/lang/Object")], some (.object "java/lang/Object")⟩ := by decide +kernel
theorem pd_16 : parseMethodDescriptor "()J" = some ⟨[], some .long⟩ := by decide +kernel
theorem d6_0 : decode prog_20_method_3_code 0 = .ok (.lload_n 1, 1) := by decide +kernel
theorem d6_1 : decode prog_20_method_3_code 1 = .ok (.lconst 1, 1) := by decide +kernel
theorem d6_2 : decode prog_20_method_3_code 2 = .ok (.lcmp, 1) := by decide +kernel
theorem d6_3 : decode prog_20_method_3_code 3 = .ok (.ifCond .ge 17, 3) := by decide +kernel
theorem d6_20 : decode prog_20_method_3_code 20 = .ok (.lload_n 3, 1) := by decide +kernel
theorem d6_21 : decode prog_20_method_3_code 21 = .ok (.lconst 1, 1) := by decide +kernel
theorem d6_22 : decode prog_20_method_3_code 22 = .ok (.lcmp, 1) := by decide +kernel
theorem d6_23 : decode prog_20_method_3_code 23 = .ok (.ifCond .ge 17, 3) := by decide +kernel
theorem d6_40 : decode prog_20_method_3_code 40 = .ok (.aload_n 0, 1) := by decide +kernel
theorem d6_41 : decode prog_20_method_3_code 41 = .ok (.getfield 18, 3) := by decide +kernel
theorem d6_44 : decode prog_20_method_3_code 44 = .ok (.lload_n 1, 1) := by decide +kernel
theorem d6_45 : decode prog_20_method_3_code 45 = .ok (.invokestatic 42, 3) := by decide +kernel
theorem d6_48 : decode prog_20_method_3_code 48 = .ok (.lconst 0, 1) := by decide +kernel
theorem d6_49 : decode prog_20_method_3_code 49 = .ok (.invokestatic 42, 3) := by decide +kernel
theorem d6_52 : decode prog_20_method_3_code 52 = .ok (.invokeinterface 46 3, 5) := by decide +kernel
theorem d6_57 : decode prog_20_method_3_code 57 = .ok (.checkcast 25, 3) := by decide +kernel
theorem d6_60 : decode prog_20_method_3_code 60 = .ok (.invokevirtual 52, 3) := by decide +kernel
theorem d6_63 : decode prog_20_method_3_code 63 = .ok (.lstore 5, 2) := by decide +kernel
theorem d6_65 : decode prog_20_method_3_code 65 = .ok (.lload 5, 2) := by decide +kernel
theorem d6_67 : decode prog_20_method_3_code 67 = .ok (.ldc2_w 27, 3) := by decide +kernel
theorem d6_70 : decode prog_20_method_3_code 70 = .ok (.lcmp, 1) := by decide +kernel
theorem d6_71 : decode prog_20_method_3_code 71 = .ok (.ifCond .eq 11, 3) := by decide +kernel
theorem d6_74 : decode prog_20_method_3_code 74 = .ok (.lload_n 3, 1) := by decide +kernel
theorem d6_75 : decode prog_20_method_3_code 75 = .ok (.ldc2_w 27, 3) := by decide +kernel
theorem d6_78 : decode prog_20_method_3_code 78 = .ok (.lcmp, 1) := by decide +kernel
theorem d6_79 : decode prog_20_method_3_code 79 = .ok (.ifCond .ne 7, 3) := by decide +kernel
theorem d6_82 : decode prog_20_method_3_code 82 = .ok (.iconst 1, 1) := by decide +kernel
theorem d6_83 : decode prog_20_method_3_code 83 = .ok (.goto 4, 3) := by decide +kernel
theorem d6_87 : decode prog_20_method_3_code 87 = .ok (.istore 7, 2) := by decide +kernel
theorem d6_89 : decode prog_20_method_3_code 89 = .ok (.iload 7, 2) := by decide +kernel
theorem d6_91 : decode prog_20_method_3_code 91 = .ok (.ifCond .ne 28, 3) := by decide +kernel
theorem d6_119 : decode prog_20_method_3_code 119 = .ok (.aload_n 0, 1) := by decide +kernel
theorem d6_120 : decode prog_20_method_3_code 120 = .ok (.getfield 18, 3) := by decide +kernel
theorem d6_123 : decode prog_20_method_3_code 123 = .ok (.lload_n 1, 1) := by decide +kernel
theorem d6_124 : decode prog_20_method_3_code 124 = .ok (.invokestatic 42, 3) := by decide +kernel
theorem d6_127 : decode prog_20_method_3_code 127 = .ok (.iload 7, 2) := by decide +kernel
theorem d6_129 : decode prog_20_method_3_code 129 = .ok (.ifCond .eq 9, 3) := by decide +kernel
theorem d6_132 : decode prog_20_method_3_code 132 = .ok (.ldc2_w 27, 3) := by decide +kernel
theorem d6_135 : decode prog_20_method_3_code 135 = .ok (.goto 7, 3) := by decide +kernel
theorem d6_142 : decode prog_20_method_3_code 142 = .ok (.invokestatic 42, 3) := by decide +kernel
theorem d6_145 : decode prog_20_method_3_code 145 = .ok (.invokeinterface 59 3, 5) := by decide +kernel
theorem d6_150 : decode prog_20_method_3_code 150 = .ok (.pop, 1) := by decide +kernel
theorem d6_151 : decode prog_20_method_3_code 151 = .ok (.aload_n 0, 1) := by decide +kernel
theorem d6_152 : decode prog_20_method_3_code 152 = .ok (.areturn, 1) := by decide +kernel
theorem pn_6 : plainName "com/example/millwright/millwright/cut/Order$Builder" = true := by first | (simp [plainName, overriddenIn]; done) | decide +kernel
theorem ef_rm6 (m : MethodId) (x0 : Addr) (x1 : Int64) (x2 : Int64) : entryFrame m #[(.ref x0), (.long x1), (.long x2)] 8 = mkF m 0 #[.val (.ref x0), .val (.long x1), .second, .val (.long x2), .second, .unset, .unset, .unset] [] := by first | (simp [entryFrame, mkF, argsToLocals, Value.category]; done) | rfl
def Qrm6 (Z : State) (ab : Addr) (ms : Addr) (cmp : Addr) (cal : Addr) (pl : Int64) (h0 : Heap) (n0 : Nat) (v : Option Value) (h : Heap) (L : List Loc) : Prop := ∃ (ae : Addr) (ak : Addr) (av : Addr), (v = some (.ref ab)) ∧ (Fr n0 L) ∧ (Keep h0 h [ms]) ∧ (Exa Z h ms "java/util/TreeMap") ∧ (Fld Z h ms "java/util/TreeMap" "comparator" "Ljava/util/Comparator;" (.ref cmp)) ∧ (Fld Z h ms "java/util/TreeMap" "root" "Ljava/util/TreeMap$Entry;" (.ref ae)) ∧ (Fld Z h ms "java/util/TreeMap" "size" "I" (.int (1 : Int32))) ∧ (Fld Z h ms "java/util/TreeMap" "modCount" "I" (.int (1 : Int32))) ∧ (Fld Z h ms "java/util/TreeMap" "navigableKeySet" "Ljava/util/TreeMap$KeySet;" .null) ∧ (Fld Z h ms "java/util/TreeMap" "entrySet" "Ljava/util/TreeMap$EntrySet;" .null) ∧ (Exa Z h ae "java/util/TreeMap$Entry") ∧ (Fld Z h ae "java/util/TreeMap$Entry" "key" "Ljava/lang/Object;" (.ref ak)) ∧ (Fld Z h ae "java/util/TreeMap$Entry" "value" "Ljava/lang/Object;" (.ref av)) ∧ (Fld Z h ae "java/util/TreeMap$Entry" "left" "Ljava/util/TreeMap$Entry;" .null) ∧ (Fld Z h ae "java/util/TreeMap$Entry" "right" "Ljava/util/TreeMap$Entry;" .null) ∧ (Fld Z h ae "java/util/TreeMap$Entry" "parent" "Ljava/util/TreeMap$Entry;" .null) ∧ (Exa Z h ak "java/lang/Long") ∧ (Fld Z h ak "java/lang/Long" "value" "J" (.long pl)) ∧ (Exa Z h av "java/lang/Long") ∧ (Fld Z h av "java/lang/Long" "value" "J" (.long (9223372036854775807 : Int64))) ∧ (h0.size ≤ ae) ∧ (own_Old ak n0 h0.size) ∧ (own_Old av n0 h0.size)
set_option maxRecDepth 65536 in
set_option maxHeartbeats 40000000 in
theorem rm6 (l : Launch) (Z : State) (a0 : Array Value) (hw : ∀ d ∈ tables_1, d.before a0 Z = true) (ws : List Jvm.Cond) (ab : Addr) (ms : Addr) (cmp : Addr) (cal : Addr) (pl : Int64) (h0 : Heap) (n0 : Nat) (Z0 : n0 ≤ h0.size) (pr1 : Exa Z h0 ab oS5) (pr2 : Fld Z h0 ab oS5 "stock" oS13 (.ref ms)) (pr3 : Exa Z h0 ms oS0) (pr4 : Fld Z h0 ms oS0 "comparator" oS6 (.ref cmp)) (pr5 : Fld Z h0 ms oS0 "root" oS2 .null) (pr6 : Fld Z h0 ms oS0 "size" "I" (.int (0 : Int32))) (pr7 : Fld Z h0 ms oS0 "modCount" "I" (.int (0 : Int32))) (pr8 : Fld Z h0 ms oS0 oS10 oS11 .null) (pr9 : Fld Z h0 ms oS0 "entrySet" oS12 .null) (pr10 : Exa Z h0 cmp oS21) (pr11 : n0 ≤ ms) (pr12 : own_D ms cmp) (pr13 : Sta Z h0 oS24 "cache" oS25 (.ref cal)) (pr14 : own_CacheV Z h0 cal n0) (hpl : ¬ pl < (1 : Int64)) :
    MetFree l oM20 (head1 (Jvm.Cond.code oM20 prog_20_method_3_code 8 (some (.object oS5)) :: ws) ({ frames := 9, cells := 5, slots := 10, locals := 132 } : Room)) (fun a U => a = #[(.ref ab), (.long pl), (.long (9223372036854775807 : Int64))] ∧ Z.Warmed39 U.vm ∧ U.heap = h0) (fun _ _ _ _ _ => True) (fun _ U o U' => ∃ v L, o = .returned v ∧ Qrm6 Z ab ms cmp cal pl h0 n0 v U'.heap L ∧ FrameEnd U o U' L ({ frames := 9, cells := 5, slots := 10, locals := 132 } : Room).cells ({ frames := 9, cells := 5, slots := 10, locals := 132 } : Room).slots) := by
  refine MetFree.of_bodySF (plainFor_of_name pn_6) hisR ?_
  intro p e s m args below meth c s₁ Bd hml0 hP0 hK
  obtain ⟨rfl, hZ, hh⟩ := hP0
  have hx := Bd.exec
  have hby := Bd.bytes
  have hml : c.maxLocals = 8 := hml0
  have hown : s.vm.findClass oS5 = some m.cls := findClass_of_methodNamed Bd.named
  have hnm := (name_of_methodNamed Bd.named Bd.method).1
  have X0 : Stand p l e ({ frames := 9, cells := 5, slots := 10, locals := 132 } : Room) s m #[(.ref ab), (.long pl), (.long (9223372036854775807 : Int64))] below meth c s₁ [] 0 0 := Stand.of_body Bd
  have e0 : s₁.heap = h0 := by rw [← hh, Bd.state]; rfl
  have N0 := Fr.nil n0
  refine own_fin (st' := s₁.setTop (mkF m 0 #[oR ab, oj pl, .second, .val (.long (9223372036854775807 : Int64)), .second, .unset, .unset, .unset] [])) (fun _ k => castTop (ef_rm6 m ab pl (9223372036854775807 : Int64)) k) (fun P hP => ?_)
  have lt_ab : @LT.lt Nat _ ab h0.size := pr1.lt
  have lt_ms : @LT.lt Nat _ ms h0.size := pr3.lt
  have lt_cmp : @LT.lt Nat _ cmp h0.size := pr10.lt
  have lt_cal : @LT.lt Nat _ cal h0.size := own_CacheV_lt pr14
  refine own_go (st' := s₁.setTop (mkF m 1 #[oR ab, oj pl, .second, .val (.long (9223372036854775807 : Int64)), .second, .unset, .unset, .unset] [(.long pl)])) (fun _ k => XS.lloadN X0.here hx rfl (hb hby d6_0) rfl k) ?_
  refine own_go (st' := s₁.setTop (mkF m 2 #[oR ab, oj pl, .second, .val (.long (9223372036854775807 : Int64)), .second, .unset, .unset, .unset] [(.long (1 : Int64)), (.long pl)])) (fun _ k => XS.lconst X0.here hx rfl (hb hby d6_1) k) ?_
  refine own_go (st' := s₁.setTop (mkF m 3 #[oR ab, oj pl, .second, .val (.long (9223372036854775807 : Int64)), .second, .unset, .unset, .unset] [(.int (lcmpW pl (1 : Int64)))])) (fun _ k => XS.lcmp X0.here hx rfl (hb hby d6_2) rfl k) ?_
  have hc1 : ¬ (pl < (1 : Int64)) := hpl
  refine own_go (st' := s₁.setTop (mkF m 20 #[oR ab, oj pl, .second, .val (.long (9223372036854775807 : Int64)), .second, .unset, .unset, .unset] [])) (fun _ k => XS.ifYes X0.here hx rfl (pc0 := 3) (pc' := 20) rfl (hb hby d6_3) rfl ((if0 _ _).trans (flt (fun q_ => hc1 ((lw_lt pl (1 : Int64)).mp q_))).2.1) (by decide) (by decide) k) ?_
  refine own_go (st' := s₁.setTop (mkF m 21 #[oR ab, oj pl, .second, .val (.long (9223372036854775807 : Int64)), .second, .unset, .unset, .unset] [(.long (9223372036854775807 : Int64))])) (fun _ k => XS.lloadN X0.here hx rfl (hb hby d6_20) rfl k) ?_
  refine own_go (st' := s₁.setTop (mkF m 22 #[oR ab, oj pl, .second, .val (.long (9223372036854775807 : Int64)), .second, .unset, .unset, .unset] [(.long (1 : Int64)), (.long (9223372036854775807 : Int64))])) (fun _ k => XS.lconst X0.here hx rfl (hb hby d6_21) k) ?_
  refine own_go (st' := s₁.setTop (mkF m 23 #[oR ab, oj pl, .second, .val (.long (9223372036854775807 : Int64)), .second, .unset, .unset, .unset] [(.int (lcmpW (9223372036854775807 : Int64) (1 : Int64)))])) (fun _ k => XS.lcmp X0.here hx rfl (hb hby d6_22) rfl k) ?_
  have hc2 : ¬ ((9223372036854775807 : Int64) < (1 : Int64)) := (by decide)
  refine own_go (st' := s₁.setTop (mkF m 40 #[oR ab, oj pl, .second, .val (.long (9223372036854775807 : Int64)), .second, .unset, .unset, .unset] [])) (fun _ k => XS.ifYes X0.here hx rfl (pc0 := 23) (pc' := 40) rfl (hb hby d6_23) rfl ((if0 _ _).trans (flt (fun q_ => hc2 ((lw_lt (9223372036854775807 : Int64) (1 : Int64)).mp q_))).2.1) (by decide) (by decide) k) ?_
  refine own_go (st' := s₁.setTop (mkF m 41 #[oR ab, oj pl, .second, .val (.long (9223372036854775807 : Int64)), .second, .unset, .unset, .unset] [(.ref ab)])) (fun _ k => XS.aloadN X0.here hx rfl (hb hby d6_40) rfl rfl k) ?_
  obtain ⟨T3, X3, e3, st3⟩ := getF X0 hx hZ hown (host := "") (Or.inl (own_hw hw 36)) Via.refl e0 pr2 (g := (mkF m 41 #[oR ab, oj pl, .second, .val (.long (9223372036854775807 : Int64)), .second, .unset, .unset, .unset] [(.ref ab)])) rfl rfl (hb hby d6_41)
  refine own_go (st' := T3.setTop (mkF m 44 #[oR ab, oj pl, .second, .val (.long (9223372036854775807 : Int64)), .second, .unset, .unset, .unset] [(.ref ms)])) (st3) ?_
  refine own_go (st' := T3.setTop (mkF m 45 #[oR ab, oj pl, .second, .val (.long (9223372036854775807 : Int64)), .second, .unset, .unset, .unset] [(.long pl), (.ref ms)])) (fun _ k => XS.lloadN X3.here hx rfl (hb hby d6_44) rfl k) ?_
  obtain ⟨_, _, ⟨T4, LC4, kC4, nC4⟩, -, X4, ⟨Lc4, hQ4, lq4, yq4, zq4⟩, st4⟩ := Jvm.LawKit.callS X3 hx (y := oM2) hown (mvT hZ (own_hw hw 51)) (mvT hZ (own_hw hw 52)) (mvT hZ (own_hw hw 53)) (mvT hZ (own_hw hw 54)) (by decide) (backOf (W := 1) (rm7 l Z a0 hw [] pl cal h0 n0 (by omega) pr13 pr14) hZ (own_hw hw 54) (own_hw hw 53) (by decide) (by decide)) (g := (mkF m 45 #[oR ab, oj pl, .second, .val (.long (9223372036854775807 : Int64)), .second, .unset, .unset, .unset] [(.long pl), (.ref ms)])) rfl (by rw [hml]; rfl) (argsL := [(.long pl)]) (rest := [(.ref ms)]) (lenOf pd_14 rfl) rfl (by show 2 * 0 + _ ≤ _; exact Nat.le_of_eq rfl) (hb hby d6_45) (fun _ _ => ⟨rfl, e3, (by decide : 0 + 1 ≤ _), (by decide : 0 + 1 ≤ _)⟩)
  dsimp only [Pt.U, Pt.locs, Pt.cells, Pt.slots] at X4 lq4 yq4 zq4 st4 hQ4
  subst lq4 yq4 zq4
  obtain ⟨h4, e4⟩ : ∃ z, T4.heap = z := ⟨_, rfl⟩
  rw [e4] at hQ4
  obtain ⟨r_4, rfl, Nq4, K4, g4_0, g4_1, g4_2⟩ := hQ4
  have sz4 : h0.size ≤ h4.size := K4.1
  have N4 := Fr.app N0 Nq4
  have lt4_1 : @LT.lt Nat _ r_4 h4.size := g4_0.lt
  refine own_go (st' := T4.setTop (mkF m 48 #[oR ab, oj pl, .second, .val (.long (9223372036854775807 : Int64)), .second, .unset, .unset, .unset] [(.ref r_4), (.ref ms)])) (fun t k => st4 t k) ?_
  refine own_go (st' := T4.setTop (mkF m 49 #[oR ab, oj pl, .second, .val (.long (9223372036854775807 : Int64)), .second, .unset, .unset, .unset] [(.long (0 : Int64)), (.ref r_4), (.ref ms)])) (fun _ k => XS.lconst X4.here hx rfl (hb hby d6_48) k) ?_
  have c6 : Sta Z h4 oS24 "cache" oS25 (.ref cal) := (own_sta_keep pr13 K4 all0)
  have c7 : own_CacheV Z h4 cal n0 := (own_CacheV_keep pr14 K4 all0)
  obtain ⟨_, _, ⟨T5, LC5, kC5, nC5⟩, -, X5, ⟨Lc5, hQ5, lq5, yq5, zq5⟩, st5⟩ := Jvm.LawKit.callS X4 hx (y := oM2) hown (mvT hZ (own_hw hw 51)) (mvT hZ (own_hw hw 52)) (mvT hZ (own_hw hw 53)) (mvT hZ (own_hw hw 54)) (by decide) (backOf (W := 2) (rm7 l Z a0 hw [] (0 : Int64) cal h4 n0 (by omega) c6 c7) hZ (own_hw hw 54) (own_hw hw 53) (by decide) (by decide)) (g := (mkF m 49 #[oR ab, oj pl, .second, .val (.long (9223372036854775807 : Int64)), .second, .unset, .unset, .unset] [(.long (0 : Int64)), (.ref r_4), (.ref ms)])) rfl (by rw [hml]; rfl) (argsL := [(.long (0 : Int64))]) (rest := [(.ref r_4), (.ref ms)]) (lenOf pd_14 rfl) rfl (by show 2 * 0 + _ ≤ _; exact Nat.le_of_eq rfl) (hb hby d6_49) (fun _ _ => ⟨rfl, e4, (by decide : 1 + 1 ≤ _), (by decide : 1 + 1 ≤ _)⟩)
  dsimp only [Pt.U, Pt.locs, Pt.cells, Pt.slots] at X5 lq5 yq5 zq5 st5 hQ5
  subst lq5 yq5 zq5
  obtain ⟨h5, e5⟩ : ∃ z, T5.heap = z := ⟨_, rfl⟩
  rw [e5] at hQ5
  obtain ⟨r_5, rfl, Nq5, K5, g5_0, g5_1, g5_2⟩ := hQ5
  have sz5 : h4.size ≤ h5.size := K5.1
  have N5 := Fr.app N4 Nq5
  have lt5_1 : @LT.lt Nat _ r_5 h5.size := g5_0.lt
  refine own_go (st' := T5.setTop (mkF m 52 #[oR ab, oj pl, .second, .val (.long (9223372036854775807 : Int64)), .second, .unset, .unset, .unset] [(.ref r_5), (.ref r_4), (.ref ms)])) (fun t k => st5 t k) ?_
  have c9 : Exa Z h5 ms oS0 := ((pr3.keep K4).keep K5)
  have c10 : Fld Z h5 ms oS0 "comparator" oS6 (.ref cmp) := ((pr4.keep K4 nin0).keep K5 nin0)
  have c11 : Fld Z h5 ms oS0 "root" oS2 .null := ((pr5.keep K4 nin0).keep K5 nin0)
  obtain ⟨cq8, kq8, q8a, q8b, q8c⟩ := isOf hZ e5 c9
  obtain ⟨_, _, ⟨T8, LC8, kC8, nC8⟩, -, X8, ⟨Lc8, hQ8, lq8, yq8, zq8⟩, st8⟩ := X5.interfaceBackD hx (xi := oM10) (y := oM10) hown (mvT hZ (own_hw hw 59)) (mvT hZ (own_hw hw 60)) (mvT hZ (own_hw hw 61)) (mvD hZ (own_hw hw 62)) (mvT hZ (own_hw hw 63)) (mvT hZ (own_hw hw 64)) (mvT hZ (own_hw hw 65)) (by decide) (own_backN (W := 0) (rm8 l Z a0 hw [] ms cmp r_4 r_5 h5 n0 (by omega) c9 c10 c11) (plainFor_of_name pn_8) hZ (own_hw hw 66) (by decide) (by decide)) q8a q8b q8c (g := (mkF m 52 #[oR ab, oj pl, .second, .val (.long (9223372036854775807 : Int64)), .second, .unset, .unset, .unset] [(.ref r_5), (.ref r_4), (.ref ms)])) rfl (by rw [hml]; rfl) (Steps.refl _) (argsL := [(.ref r_4), (.ref r_5)]) (rest := []) (lenOf pd_15 rfl) rfl (by show 2 * 0 + _ ≤ _; exact Nat.le_of_eq rfl) (hb hby d6_52) (fun _ _ => ⟨rfl, e5, (by decide : 2 + 0 ≤ _), (by decide : 2 + 0 ≤ _)⟩)
  dsimp only [Pt.U, Pt.locs, Pt.cells, Pt.slots] at X8 lq8 yq8 zq8 st8 hQ8
  subst lq8 yq8 zq8
  obtain ⟨rfl, Nq8, eq8⟩ := hQ8
  have N8 := Fr.app N5 Nq8
  refine own_go (st' := T8.setTop (mkF m 57 #[oR ab, oj pl, .second, .val (.long (9223372036854775807 : Int64)), .second, .unset, .unset, .unset] [(.ref r_5)])) (fun _ k => st8.trans k) ?_
  obtain ⟨T12, X12, e12, st12⟩ := castY X8 hx hZ hown (own_hw hw 95) eq8 (Ins.self g5_0) (g := (mkF m 57 #[oR ab, oj pl, .second, .val (.long (9223372036854775807 : Int64)), .second, .unset, .unset, .unset] [(.ref r_5)])) rfl rfl (hb hby d6_57)
  refine own_go (st' := T12.setTop (mkF m 60 #[oR ab, oj pl, .second, .val (.long (9223372036854775807 : Int64)), .second, .unset, .unset, .unset] [(.ref r_5)])) (st12) ?_
  obtain ⟨cq13, kq13, q13a, q13b, q13c⟩ := isOf hZ e12 g5_0
  obtain ⟨_, _, ⟨T13, LC13, kC13, nC13⟩, -, X13, ⟨Lc13, hQ13, lq13, yq13, zq13⟩, st13⟩ := X12.virtualBack hx (y := oM0) (z := oM0) hown (mvT hZ (own_hw hw 97)) (mvT hZ (own_hw hw 98)) (notFace_of_selects (args := #[]) (mvT hZ (own_hw hw 100))) (mvT hZ (own_hw hw 100)) (mvT hZ (own_hw hw 99)) (by decide) (backOf (W := 0) (rm13 l Z a0 hw [] r_5 (0 : Int64) h5 n0 (by omega) g5_0 g5_1) hZ (own_hw hw 101) (own_hw hw 53) (by decide) (by decide)) q13a q13c (g := (mkF m 60 #[oR ab, oj pl, .second, .val (.long (9223372036854775807 : Int64)), .second, .unset, .unset, .unset] [(.ref r_5)])) rfl (by rw [hml]; rfl) (Steps.refl _) (argsL := []) (rest := []) (lenOf pd_16 rfl) rfl (by show 2 * 0 + _ ≤ _; exact Nat.le_of_eq rfl) (hb hby d6_60) (fun _ _ => ⟨rfl, e12, (by decide : 2 + 0 ≤ _), (by decide : 2 + 0 ≤ _)⟩)
  dsimp only [Pt.U, Pt.locs, Pt.cells, Pt.slots] at X13 lq13 yq13 zq13 st13 hQ13
  subst lq13 yq13 zq13
  obtain ⟨rfl, Nq13, eq13⟩ := hQ13
  have N13 := Fr.app N8 Nq13
  refine own_go (st' := T13.setTop (mkF m 63 #[oR ab, oj pl, .second, .val (.long (9223372036854775807 : Int64)), .second, .unset, .unset, .unset] [(.long (0 : Int64))])) (fun _ k => st13.trans k) ?_
  refine own_go (st' := T13.setTop (mkF m 65 #[oR ab, oj pl, .second, .val (.long (9223372036854775807 : Int64)), .second, .val (.long (0 : Int64)), .second, .unset] [])) (fun _ k => XS.lstore X13.here hx rfl (hb hby d6_63) rfl (l' := #[oR ab, oj pl, .second, .val (.long (9223372036854775807 : Int64)), .second, .val (.long (0 : Int64)), .second, .unset]) rfl k) ?_
  refine own_go (st' := T13.setTop (mkF m 67 #[oR ab, oj pl, .second, .val (.long (9223372036854775807 : Int64)), .second, .val (.long (0 : Int64)), .second, .unset] [(.long (0 : Int64))])) (fun _ k => XS.lload X13.here hx rfl (hb hby d6_65) rfl k) ?_
  refine own_go (st' := T13.setTop (mkF m 70 #[oR ab, oj pl, .second, .val (.long (9223372036854775807 : Int64)), .second, .val (.long (0 : Int64)), .second, .unset] [(.long (9223372036854775807 : Int64)), (.long (0 : Int64))])) (X13.ldc2Long hx hown (mvT hZ (own_hw hw 45)) (g := (mkF m 67 #[oR ab, oj pl, .second, .val (.long (9223372036854775807 : Int64)), .second, .val (.long (0 : Int64)), .second, .unset] [(.long (0 : Int64))])) rfl (hb hby d6_67)) ?_
  refine own_go (st' := T13.setTop (mkF m 71 #[oR ab, oj pl, .second, .val (.long (9223372036854775807 : Int64)), .second, .val (.long (0 : Int64)), .second, .unset] [(.int (lcmpW (0 : Int64) (9223372036854775807 : Int64)))])) (fun _ k => XS.lcmp X13.here hx rfl (hb hby d6_70) rfl k) ?_
  have hc14 : ¬ ((0 : Int64) = (9223372036854775807 : Int64)) := (by decide)
  refine own_go (st' := T13.setTop (mkF m 74 #[oR ab, oj pl, .second, .val (.long (9223372036854775807 : Int64)), .second, .val (.long (0 : Int64)), .second, .unset] [])) (fun _ k => XS.ifNo X13.here hx rfl (hb hby d6_71) rfl ((if0 _ _).trans (feq (fun q_ => hc14 ((lw_eq (0 : Int64) (9223372036854775807 : Int64)).mp q_))).1) k) ?_
  refine own_go (st' := T13.setTop (mkF m 75 #[oR ab, oj pl, .second, .val (.long (9223372036854775807 : Int64)), .second, .val (.long (0 : Int64)), .second, .unset] [(.long (9223372036854775807 : Int64))])) (fun _ k => XS.lloadN X13.here hx rfl (hb hby d6_74) rfl k) ?_
  refine own_go (st' := T13.setTop (mkF m 78 #[oR ab, oj pl, .second, .val (.long (9223372036854775807 : Int64)), .second, .val (.long (0 : Int64)), .second, .unset] [(.long (9223372036854775807 : Int64)), (.long (9223372036854775807 : Int64))])) (X13.ldc2Long hx hown (mvT hZ (own_hw hw 45)) (g := (mkF m 75 #[oR ab, oj pl, .second, .val (.long (9223372036854775807 : Int64)), .second, .val (.long (0 : Int64)), .second, .unset] [(.long (9223372036854775807 : Int64))])) rfl (hb hby d6_75)) ?_
  refine own_go (st' := T13.setTop (mkF m 79 #[oR ab, oj pl, .second, .val (.long (9223372036854775807 : Int64)), .second, .val (.long (0 : Int64)), .second, .unset] [(.int (lcmpW (9223372036854775807 : Int64) (9223372036854775807 : Int64)))])) (fun _ k => XS.lcmp X13.here hx rfl (hb hby d6_78) rfl k) ?_
  have hc15 : (9223372036854775807 : Int64) = (9223372036854775807 : Int64) := rfl
  refine own_go (st' := T13.setTop (mkF m 82 #[oR ab, oj pl, .second, .val (.long (9223372036854775807 : Int64)), .second, .val (.long (0 : Int64)), .second, .unset] [])) (fun _ k => XS.ifNo X13.here hx rfl (hb hby d6_79) rfl ((if0 _ _).trans (teq ((lw_eq (9223372036854775807 : Int64) (9223372036854775807 : Int64)).mpr hc15)).2) k) ?_
  refine own_go (st' := T13.setTop (mkF m 83 #[oR ab, oj pl, .second, .val (.long (9223372036854775807 : Int64)), .second, .val (.long (0 : Int64)), .second, .unset] [(.int (1 : Int32))])) (fun _ k => XS.iconst X13.here hx rfl (hb hby d6_82) k) ?_
  refine own_go (st' := T13.setTop (mkF m 87 #[oR ab, oj pl, .second, .val (.long (9223372036854775807 : Int64)), .second, .val (.long (0 : Int64)), .second, .unset] [(.int (1 : Int32))])) (fun _ k => XS.goto X13.here hx rfl (pc0 := 83) (pc' := 87) rfl (hb hby d6_83) (by decide) (by decide) k) ?_
  refine own_go (st' := T13.setTop (mkF m 89 #[oR ab, oj pl, .second, .val (.long (9223372036854775807 : Int64)), .second, .val (.long (0 : Int64)), .second, oi 1] [])) (fun _ k => XS.istore X13.here hx rfl (hb hby d6_87) rfl (l' := #[oR ab, oj pl, .second, .val (.long (9223372036854775807 : Int64)), .second, .val (.long (0 : Int64)), .second, oi 1]) rfl k) ?_
  refine own_go (st' := T13.setTop (mkF m 91 #[oR ab, oj pl, .second, .val (.long (9223372036854775807 : Int64)), .second, .val (.long (0 : Int64)), .second, oi 1] [(.int (1 : Int32))])) (fun _ k => XS.iload X13.here hx rfl (hb hby d6_89) rfl k) ?_
  have hc16 : ¬ ((1 : Int32) = (0 : Int32)) := by decide
  refine own_go (st' := T13.setTop (mkF m 119 #[oR ab, oj pl, .second, .val (.long (9223372036854775807 : Int64)), .second, .val (.long (0 : Int64)), .second, oi 1] [])) (fun _ k => XS.ifYes X13.here hx rfl (pc0 := 91) (pc' := 119) rfl (hb hby d6_91) rfl ((if0 _ _).trans (feq hc16).2) (by decide) (by decide) k) ?_
  refine own_go (st' := T13.setTop (mkF m 120 #[oR ab, oj pl, .second, .val (.long (9223372036854775807 : Int64)), .second, .val (.long (0 : Int64)), .second, oi 1] [(.ref ab)])) (fun _ k => XS.aloadN X13.here hx rfl (hb hby d6_119) rfl rfl k) ?_
  have c17 : Fld Z h5 ab oS5 "stock" oS13 (.ref ms) := ((pr2.keep K4 nin0).keep K5 nin0)
  obtain ⟨T18, X18, e18, st18⟩ := getF X13 hx hZ hown (host := "") (Or.inl (own_hw hw 36)) Via.refl eq13 c17 (g := (mkF m 120 #[oR ab, oj pl, .second, .val (.long (9223372036854775807 : Int64)), .second, .val (.long (0 : Int64)), .second, oi 1] [(.ref ab)])) rfl rfl (hb hby d6_120)
  refine own_go (st' := T18.setTop (mkF m 123 #[oR ab, oj pl, .second, .val (.long (9223372036854775807 : Int64)), .second, .val (.long (0 : Int64)), .second, oi 1] [(.ref ms)])) (st18) ?_
  refine own_go (st' := T18.setTop (mkF m 124 #[oR ab, oj pl, .second, .val (.long (9223372036854775807 : Int64)), .second, .val (.long (0 : Int64)), .second, oi 1] [(.long pl), (.ref ms)])) (fun _ k => XS.lloadN X18.here hx rfl (hb hby d6_123) rfl k) ?_
  have c20 : Sta Z h5 oS24 "cache" oS25 (.ref cal) := (own_sta_keep c6 K5 all0)
  have c21 : own_CacheV Z h5 cal n0 := (own_CacheV_keep c7 K5 all0)
  obtain ⟨_, _, ⟨T19, LC19, kC19, nC19⟩, -, X19, ⟨Lc19, hQ19, lq19, yq19, zq19⟩, st19⟩ := Jvm.LawKit.callS X18 hx (y := oM2) hown (mvT hZ (own_hw hw 51)) (mvT hZ (own_hw hw 52)) (mvT hZ (own_hw hw 53)) (mvT hZ (own_hw hw 54)) (by decide) (backOf (W := 1) (rm7 l Z a0 hw [] pl cal h5 n0 (by omega) c20 c21) hZ (own_hw hw 54) (own_hw hw 53) (by decide) (by decide)) (g := (mkF m 124 #[oR ab, oj pl, .second, .val (.long (9223372036854775807 : Int64)), .second, .val (.long (0 : Int64)), .second, oi 1] [(.long pl), (.ref ms)])) rfl (by rw [hml]; rfl) (argsL := [(.long pl)]) (rest := [(.ref ms)]) (lenOf pd_14 rfl) rfl (by show 2 * 0 + _ ≤ _; exact Nat.le_of_eq rfl) (hb hby d6_124) (fun _ _ => ⟨rfl, e18, (by decide : 2 + 1 ≤ _), (by decide : 2 + 1 ≤ _)⟩)
  dsimp only [Pt.U, Pt.locs, Pt.cells, Pt.slots] at X19 lq19 yq19 zq19 st19 hQ19
  subst lq19 yq19 zq19
  obtain ⟨h19, e19⟩ : ∃ z, T19.heap = z := ⟨_, rfl⟩
  rw [e19] at hQ19
  obtain ⟨r_19, rfl, Nq19, K19, g19_0, g19_1, g19_2⟩ := hQ19
  have sz19 : h5.size ≤ h19.size := K19.1
  have N19 := Fr.app N13 Nq19
  have lt19_1 : @LT.lt Nat _ r_19 h19.size := g19_0.lt
  refine own_go (st' := T19.setTop (mkF m 127 #[oR ab, oj pl, .second, .val (.long (9223372036854775807 : Int64)), .second, .val (.long (0 : Int64)), .second, oi 1] [(.ref r_19), (.ref ms)])) (fun t k => st19 t k) ?_
  refine own_go (st' := T19.setTop (mkF m 129 #[oR ab, oj pl, .second, .val (.long (9223372036854775807 : Int64)), .second, .val (.long (0 : Int64)), .second, oi 1] [(.int (1 : Int32)), (.ref r_19), (.ref ms)])) (fun _ k => XS.iload X19.here hx rfl (hb hby d6_127) rfl k) ?_
  have hc22 : ¬ ((1 : Int32) = (0 : Int32)) := by decide
  refine own_go (st' := T19.setTop (mkF m 132 #[oR ab, oj pl, .second, .val (.long (9223372036854775807 : Int64)), .second, .val (.long (0 : Int64)), .second, oi 1] [(.ref r_19), (.ref ms)])) (fun _ k => XS.ifNo X19.here hx rfl (hb hby d6_129) rfl ((if0 _ _).trans (feq hc22).1) k) ?_
  refine own_go (st' := T19.setTop (mkF m 135 #[oR ab, oj pl, .second, .val (.long (9223372036854775807 : Int64)), .second, .val (.long (0 : Int64)), .second, oi 1] [(.long (9223372036854775807 : Int64)), (.ref r_19), (.ref ms)])) (X19.ldc2Long hx hown (mvT hZ (own_hw hw 45)) (g := (mkF m 132 #[oR ab, oj pl, .second, .val (.long (9223372036854775807 : Int64)), .second, .val (.long (0 : Int64)), .second, oi 1] [(.ref r_19), (.ref ms)])) rfl (hb hby d6_132)) ?_
  refine own_go (st' := T19.setTop (mkF m 142 #[oR ab, oj pl, .second, .val (.long (9223372036854775807 : Int64)), .second, .val (.long (0 : Int64)), .second, oi 1] [(.long (9223372036854775807 : Int64)), (.ref r_19), (.ref ms)])) (fun _ k => XS.goto X19.here hx rfl (pc0 := 135) (pc' := 142) rfl (hb hby d6_135) (by decide) (by decide) k) ?_
  have c24 : Sta Z h19 oS24 "cache" oS25 (.ref cal) := (own_sta_keep c20 K19 all0)
  have c25 : own_CacheV Z h19 cal n0 := (own_CacheV_keep c21 K19 all0)
  obtain ⟨_, _, ⟨T23, LC23, kC23, nC23⟩, -, X23, ⟨Lc23, hQ23, lq23, yq23, zq23⟩, st23⟩ := Jvm.LawKit.callS X19 hx (y := oM2) hown (mvT hZ (own_hw hw 51)) (mvT hZ (own_hw hw 52)) (mvT hZ (own_hw hw 53)) (mvT hZ (own_hw hw 54)) (by decide) (backOf (W := 2) (rm7 l Z a0 hw [] (9223372036854775807 : Int64) cal h19 n0 (by omega) c24 c25) hZ (own_hw hw 54) (own_hw hw 53) (by decide) (by decide)) (g := (mkF m 142 #[oR ab, oj pl, .second, .val (.long (9223372036854775807 : Int64)), .second, .val (.long (0 : Int64)), .second, oi 1] [(.long (9223372036854775807 : Int64)), (.ref r_19), (.ref ms)])) rfl (by rw [hml]; rfl) (argsL := [(.long (9223372036854775807 : Int64))]) (rest := [(.ref r_19), (.ref ms)]) (lenOf pd_14 rfl) rfl (by show 2 * 0 + _ ≤ _; exact Nat.le_of_eq rfl) (hb hby d6_142) (fun _ _ => ⟨rfl, e19, (by decide : 3 + 1 ≤ _), (by decide : 3 + 1 ≤ _)⟩)
  dsimp only [Pt.U, Pt.locs, Pt.cells, Pt.slots] at X23 lq23 yq23 zq23 st23 hQ23
  subst lq23 yq23 zq23
  obtain ⟨h23, e23⟩ : ∃ z, T23.heap = z := ⟨_, rfl⟩
  rw [e23] at hQ23
  obtain ⟨r_23, rfl, Nq23, K23, g23_0, g23_1, g23_2⟩ := hQ23
  have sz23 : h19.size ≤ h23.size := K23.1
  have N23 := Fr.app N19 Nq23
  have lt23_1 : @LT.lt Nat _ r_23 h23.size := g23_0.lt
  refine own_go (st' := T23.setTop (mkF m 145 #[oR ab, oj pl, .second, .val (.long (9223372036854775807 : Int64)), .second, .val (.long (0 : Int64)), .second, oi 1] [(.ref r_23), (.ref r_19), (.ref ms)])) (fun t k => st23 t k) ?_
  have c27 : Exa Z h23 ms oS0 := ((c9.keep K19).keep K23)
  have c28 : Fld Z h23 ms oS0 "comparator" oS6 (.ref cmp) := ((c10.keep K19 nin0).keep K23 nin0)
  have c29 : Fld Z h23 ms oS0 "root" oS2 .null := ((c11.keep K19 nin0).keep K23 nin0)
  have c30 : Fld Z h23 ms oS0 "size" "I" (.int (0 : Int32)) := ((((pr6.keep K4 nin0).keep K5 nin0).keep K19 nin0).keep K23 nin0)
  have c31 : Fld Z h23 ms oS0 "modCount" "I" (.int (0 : Int32)) := ((((pr7.keep K4 nin0).keep K5 nin0).keep K19 nin0).keep K23 nin0)
  have c32 : Fld Z h23 ms oS0 oS10 oS11 .null := ((((pr8.keep K4 nin0).keep K5 nin0).keep K19 nin0).keep K23 nin0)
  have c33 : Fld Z h23 ms oS0 "entrySet" oS12 .null := ((((pr9.keep K4 nin0).keep K5 nin0).keep K19 nin0).keep K23 nin0)
  have c34 : Exa Z h23 r_19 oS3 := (g19_0.keep K23)
  have c35 : Fld Z h23 r_19 oS3 "value" "J" (.long pl) := (g19_1.keep K23 nin0)
  have c36 : Exa Z h23 cmp oS21 := ((((pr10.keep K4).keep K5).keep K19).keep K23)
  obtain ⟨cq26, kq26, q26a, q26b, q26c⟩ := isOf hZ e23 c27
  obtain ⟨_, _, ⟨T26, LC26, kC26, nC26⟩, -, X26, ⟨Lc26, hQ26, lq26, yq26, zq26⟩, st26⟩ := X23.interfaceBack hx (xi := oM66) (y := oM18) hown (mvT hZ (own_hw hw 116)) (mvT hZ (own_hw hw 117)) (mvT hZ (own_hw hw 118)) (mvT hZ (own_hw hw 119)) (mvT hZ (own_hw hw 120)) (mvT hZ (own_hw hw 121)) (mvT hZ (own_hw hw 122)) (mvT hZ (own_hw hw 65)) (by decide) (backOf (W := 0) (rm16 l Z a0 hw [] ms cmp r_23 r_19 pl h23 n0 (by omega) c27 c28 c29 c30 c31 c32 c33 c34 c35 c36 (by omega) own_nr own_nr) hZ (own_hw hw 123) (own_hw hw 17) (by decide) (by decide)) q26a q26b q26c (g := (mkF m 145 #[oR ab, oj pl, .second, .val (.long (9223372036854775807 : Int64)), .second, .val (.long (0 : Int64)), .second, oi 1] [(.ref r_23), (.ref r_19), (.ref ms)])) rfl (by rw [hml]; rfl) (Steps.refl _) (argsL := [(.ref r_19), (.ref r_23)]) (rest := []) (lenOf pd_15 rfl) rfl (by show 2 * 0 + _ ≤ _; exact Nat.le_of_eq rfl) (hb hby d6_145) (fun _ _ => ⟨rfl, e23, (by decide : 4 + 1 ≤ _), (by decide : 4 + 6 ≤ _)⟩)
  dsimp only [Pt.U, Pt.locs, Pt.cells, Pt.slots] at X26 lq26 yq26 zq26 st26 hQ26
  subst lq26 yq26 zq26
  obtain ⟨h26, e26⟩ : ∃ z, T26.heap = z := ⟨_, rfl⟩
  rw [e26] at hQ26
  obtain ⟨ae_26, rfl, Nq26, K26, g26_0, g26_1, g26_2, g26_3, g26_4, g26_5, g26_6, g26_7, g26_8, g26_9, g26_10, g26_11, g26_12, g26_13⟩ := hQ26
  have sz26 : h23.size ≤ h26.size := K26.1
  have N26 := Fr.app N23 Nq26
  have lt26_1 : @LT.lt Nat _ ms h26.size := g26_0.lt
  have lt26_2 : @LT.lt Nat _ ae_26 h26.size := g26_7.lt
  refine own_go (st' := T26.setTop (mkF m 150 #[oR ab, oj pl, .second, .val (.long (9223372036854775807 : Int64)), .second, .val (.long (0 : Int64)), .second, oi 1] [.null])) (fun _ k => st26.trans k) ?_
  refine own_go (st' := T26.setTop (mkF m 151 #[oR ab, oj pl, .second, .val (.long (9223372036854775807 : Int64)), .second, .val (.long (0 : Int64)), .second, oi 1] [])) (fun _ k => XS.pop X26.here hx rfl (hb hby d6_150) rfl rfl k) ?_
  refine own_go (st' := T26.setTop (mkF m 152 #[oR ab, oj pl, .second, .val (.long (9223372036854775807 : Int64)), .second, .val (.long (0 : Int64)), .second, oi 1] [(.ref ab)])) (fun _ k => XS.aloadN X26.here hx rfl (hb hby d6_151) rfl rfl k) ?_
  obtain ⟨fs, hr, hrun, hended, hW, hsame⟩ := X26.leave (v := some (.ref ab)) (fun h => by rw [Bd.returns] at h; cases h)
  refine ⟨_, _, ?_, hP _ _ hrun hended ⟨_, _, rfl, ?_, ⟨_, rfl⟩, hW, hsame.mono (by decide) (by decide)⟩⟩
  · exact retOut X26 hx Bd.returns rfl (Or.inr (Or.inr (Or.inr (Or.inr ⟨rfl, rfl, rfl⟩)))) (hb hby d6_152) hr
  · show Qrm6 Z ab ms cmp cal pl h0 n0 _ T26.heap _
    have c38 : Exa Z h26 r_19 oS3 := (c34.keep K26)
    have c39 : Fld Z h26 r_19 oS3 "value" "J" (.long pl) := (c35.keep K26 (ninS own_nq nin0))
    have c40 : Exa Z h26 r_23 oS3 := (g23_0.keep K26)
    have c41 : Fld Z h26 r_23 oS3 "value" "J" (.long (9223372036854775807 : Int64)) := (g23_1.keep K26 (ninS own_nq nin0))
    rw [e26]
    exact ⟨ae_26, r_19, r_23, rfl, N26, ((((((Keep.refl h0 [ms]).trans K4 all0).trans K5 all0).trans K19 all0).trans K23 all0).trans K26 (allS (P := fun x => x ∈ [ms] ∨ h0.size ≤ x) (Or.inl (List.mem_of_getElem? (i := 0) rfl)) all0)), g26_0, g26_1, g26_2, g26_3, g26_4, g26_5, g26_6, g26_7, g26_8, g26_9, g26_10, g26_11, g26_12, c38, c39, c40, c41, (by omega), (own_Old.mono (by assumption) (by omega)), (own_Old.mono (by assumption) (by omega))⟩
theorem pd_17 : parseMethodDescriptor "(JJ)Lcom/example/millwright/millwright/cut/Order$Builder;" = some ⟨[.long, .long], some (.object "com/example/millwright/millwright/cut/Order$Builder")⟩ := by decide +kernel
theorem d5_0 : decode prog_20_method_2_code 0 = .ok (.aload_n 0, 1) := by decide +kernel
theorem d5_1 : decode prog_20_method_2_code 1 = .ok (.lload_n 1, 1) := by decide +kernel
theorem d5_2 : decode prog_20_method_2_code 2 = .ok (.ldc2_w 27, 3) := by decide +kernel
theorem d5_5 : decode prog_20_method_2_code 5 = .ok (.invokevirtual 29, 3) := by decide +kernel
theorem d5_8 : decode prog_20_method_2_code 8 = .ok (.areturn, 1) := by decide +kernel
theorem pn_5 : plainName "com/example/millwright/millwright/cut/Order$Builder" = true := by first | (simp [plainName, overriddenIn]; done) | decide +kernel
theorem ef_rm5 (m : MethodId) (x0 : Addr) (x1 : Int64) : entryFrame m #[(.ref x0), (.long x1)] 3 = mkF m 0 #[.val (.ref x0), .val (.long x1), .second] [] := by first | (simp [entryFrame, mkF, argsToLocals, Value.category]; done) | rfl
def Qrm5 (Z : State) (ab : Addr) (ms : Addr) (cmp : Addr) (cal : Addr) (pl : Int64) (h0 : Heap) (n0 : Nat) (v : Option Value) (h : Heap) (L : List Loc) : Prop := ∃ (ae : Addr) (ak : Addr) (av : Addr), (v = some (.ref ab)) ∧ (Fr n0 L) ∧ (Keep h0 h [ms]) ∧ (Exa Z h ms "java/util/TreeMap") ∧ (Fld Z h ms "java/util/TreeMap" "comparator" "Ljava/util/Comparator;" (.ref cmp)) ∧ (Fld Z h ms "java/util/TreeMap" "root" "Ljava/util/TreeMap$Entry;" (.ref ae)) ∧ (Fld Z h ms "java/util/TreeMap" "size" "I" (.int (1 : Int32))) ∧ (Fld Z h ms "java/util/TreeMap" "modCount" "I" (.int (1 : Int32))) ∧ (Fld Z h ms "java/util/TreeMap" "navigableKeySet" "Ljava/util/TreeMap$KeySet;" .null) ∧ (Fld Z h ms "java/util/TreeMap" "entrySet" "Ljava/util/TreeMap$EntrySet;" .null) ∧ (Exa Z h ae "java/util/TreeMap$Entry") ∧ (Fld Z h ae "java/util/TreeMap$Entry" "key" "Ljava/lang/Object;" (.ref ak)) ∧ (Fld Z h ae "java/util/TreeMap$Entry" "value" "Ljava/lang/Object;" (.ref av)) ∧ (Fld Z h ae "java/util/TreeMap$Entry" "left" "Ljava/util/TreeMap$Entry;" .null) ∧ (Fld Z h ae "java/util/TreeMap$Entry" "right" "Ljava/util/TreeMap$Entry;" .null) ∧ (Fld Z h ae "java/util/TreeMap$Entry" "parent" "Ljava/util/TreeMap$Entry;" .null) ∧ (Exa Z h ak "java/lang/Long") ∧ (Fld Z h ak "java/lang/Long" "value" "J" (.long pl)) ∧ (Exa Z h av "java/lang/Long") ∧ (Fld Z h av "java/lang/Long" "value" "J" (.long (9223372036854775807 : Int64))) ∧ (h0.size ≤ ae) ∧ (own_Old ak n0 h0.size) ∧ (own_Old av n0 h0.size)
set_option maxRecDepth 65536 in
set_option maxHeartbeats 40000000 in
theorem rm5 (l : Launch) (Z : State) (a0 : Array Value) (hw : ∀ d ∈ tables_1, d.before a0 Z = true) (ws : List Jvm.Cond) (ab : Addr) (ms : Addr) (cmp : Addr) (cal : Addr) (pl : Int64) (h0 : Heap) (n0 : Nat) (Z0 : n0 ≤ h0.size) (pr1 : Exa Z h0 ab oS5) (pr2 : Fld Z h0 ab oS5 "stock" oS13 (.ref ms)) (pr3 : Exa Z h0 ms oS0) (pr4 : Fld Z h0 ms oS0 "comparator" oS6 (.ref cmp)) (pr5 : Fld Z h0 ms oS0 "root" oS2 .null) (pr6 : Fld Z h0 ms oS0 "size" "I" (.int (0 : Int32))) (pr7 : Fld Z h0 ms oS0 "modCount" "I" (.int (0 : Int32))) (pr8 : Fld Z h0 ms oS0 oS10 oS11 .null) (pr9 : Fld Z h0 ms oS0 "entrySet" oS12 .null) (pr10 : Exa Z h0 cmp oS21) (pr11 : n0 ≤ ms) (pr12 : own_D ms cmp) (pr13 : Sta Z h0 oS24 "cache" oS25 (.ref cal)) (pr14 : own_CacheV Z h0 cal n0) (hpl : ¬ pl < (1 : Int64)) :
    MetFree l oM21 (head1 (Jvm.Cond.code oM21 prog_20_method_2_code 3 (some (.object oS5)) :: ws) ({ frames := 10, cells := 5, slots := 10, locals := 151 } : Room)) (fun a U => a = #[(.ref ab), (.long pl)] ∧ Z.Warmed39 U.vm ∧ U.heap = h0) (fun _ _ _ _ _ => True) (fun _ U o U' => ∃ v L, o = .returned v ∧ Qrm5 Z ab ms cmp cal pl h0 n0 v U'.heap L ∧ FrameEnd U o U' L ({ frames := 10, cells := 5, slots := 10, locals := 151 } : Room).cells ({ frames := 10, cells := 5, slots := 10, locals := 151 } : Room).slots) := by
  refine MetFree.of_bodySF (plainFor_of_name pn_5) hisR ?_
  intro p e s m args below meth c s₁ Bd hml0 hP0 hK
  obtain ⟨rfl, hZ, hh⟩ := hP0
  have hx := Bd.exec
  have hby := Bd.bytes
  have hml : c.maxLocals = 3 := hml0
  have hown : s.vm.findClass oS5 = some m.cls := findClass_of_methodNamed Bd.named
  have hnm := (name_of_methodNamed Bd.named Bd.method).1
  have X0 : Stand p l e ({ frames := 10, cells := 5, slots := 10, locals := 151 } : Room) s m #[(.ref ab), (.long pl)] below meth c s₁ [] 0 0 := Stand.of_body Bd
  have e0 : s₁.heap = h0 := by rw [← hh, Bd.state]; rfl
  have N0 := Fr.nil n0
  refine own_fin (st' := s₁.setTop (mkF m 0 #[oR ab, oj pl, .second] [])) (fun _ k => castTop (ef_rm5 m ab pl) k) (fun P hP => ?_)
  have lt_ab : @LT.lt Nat _ ab h0.size := pr1.lt
  have lt_ms : @LT.lt Nat _ ms h0.size := pr3.lt
  have lt_cmp : @LT.lt Nat _ cmp h0.size := pr10.lt
  have lt_cal : @LT.lt Nat _ cal h0.size := own_CacheV_lt pr14
  refine own_go (st' := s₁.setTop (mkF m 1 #[oR ab, oj pl, .second] [(.ref ab)])) (fun _ k => XS.aloadN X0.here hx rfl (hb hby d5_0) rfl rfl k) ?_
  refine own_go (st' := s₁.setTop (mkF m 2 #[oR ab, oj pl, .second] [(.long pl), (.ref ab)])) (fun _ k => XS.lloadN X0.here hx rfl (hb hby d5_1) rfl k) ?_
  refine own_go (st' := s₁.setTop (mkF m 5 #[oR ab, oj pl, .second] [(.long (9223372036854775807 : Int64)), (.long pl), (.ref ab)])) (X0.ldc2Long hx hown (mvT hZ (own_hw hw 45)) (g := (mkF m 2 #[oR ab, oj pl, .second] [(.long pl), (.ref ab)])) rfl (hb hby d5_2)) ?_
  obtain ⟨cq1, kq1, q1a, q1b, q1c⟩ := isOf hZ e0 pr1
  obtain ⟨_, _, ⟨T1, LC1, kC1, nC1⟩, -, X1, ⟨Lc1, hQ1, lq1, yq1, zq1⟩, st1⟩ := X0.virtualBack hx (y := oM20) (z := oM20) hown (mvT hZ (own_hw hw 46)) (mvT hZ (own_hw hw 47)) (notFace_of_selects (args := #[]) (mvT hZ (own_hw hw 49))) (mvT hZ (own_hw hw 49)) (mvT hZ (own_hw hw 48)) (by decide) (backOf (W := 0) (rm6 l Z a0 hw [] ab ms cmp cal pl h0 n0 (by omega) pr1 pr2 pr3 pr4 pr5 pr6 pr7 pr8 pr9 pr10 (by omega) own_nr pr13 pr14 hpl) hZ (own_hw hw 50) (own_hw hw 8) (by decide) (by decide)) q1a q1c (g := (mkF m 5 #[oR ab, oj pl, .second] [(.long (9223372036854775807 : Int64)), (.long pl), (.ref ab)])) rfl (by rw [hml]; rfl) (Steps.refl _) (argsL := [(.long pl), (.long (9223372036854775807 : Int64))]) (rest := []) (lenOf pd_17 rfl) rfl (by show 2 * 0 + _ ≤ _; exact Nat.le_of_eq rfl) (hb hby d5_5) (fun _ _ => ⟨rfl, e0, (by decide : 0 + 5 ≤ _), (by decide : 0 + 10 ≤ _)⟩)
  dsimp only [Pt.U, Pt.locs, Pt.cells, Pt.slots] at X1 lq1 yq1 zq1 st1 hQ1
  subst lq1 yq1 zq1
  obtain ⟨h1, e1⟩ : ∃ z, T1.heap = z := ⟨_, rfl⟩
  rw [e1] at hQ1
  obtain ⟨ae_1, ak_1, av_1, rfl, Nq1, K1, g1_0, g1_1, g1_2, g1_3, g1_4, g1_5, g1_6, g1_7, g1_8, g1_9, g1_10, g1_11, g1_12, g1_13, g1_14, g1_15, g1_16, g1_17, g1_18, g1_19⟩ := hQ1
  have sz1 : h0.size ≤ h1.size := K1.1
  have N1 := Fr.app N0 Nq1
  have lt1_1 : @LT.lt Nat _ ms h1.size := g1_0.lt
  have lt1_2 : @LT.lt Nat _ ae_1 h1.size := g1_7.lt
  have lt1_3 : @LT.lt Nat _ ak_1 h1.size := g1_13.lt
  have lt1_4 : @LT.lt Nat _ av_1 h1.size := g1_15.lt
  refine own_go (st' := T1.setTop (mkF m 8 #[oR ab, oj pl, .second] [(.ref ab)])) (fun _ k => st1.trans k) ?_
  obtain ⟨fs, hr, hrun, hended, hW, hsame⟩ := X1.leave (v := some (.ref ab)) (fun h => by rw [Bd.returns] at h; cases h)
  refine ⟨_, _, ?_, hP _ _ hrun hended ⟨_, _, rfl, ?_, ⟨_, rfl⟩, hW, hsame.mono (by decide) (by decide)⟩⟩
  · exact retOut X1 hx Bd.returns rfl (Or.inr (Or.inr (Or.inr (Or.inr ⟨rfl, rfl, rfl⟩)))) (hb hby d5_8) hr
  · show Qrm5 Z ab ms cmp cal pl h0 n0 _ T1.heap _
    rw [e1]
    exact ⟨ae_1, ak_1, av_1, rfl, N1, ((Keep.refl h0 [ms]).trans K1 (allS (P := fun x => x ∈ [ms] ∨ h0.size ≤ x) (Or.inl (List.mem_of_getElem? (i := 0) rfl)) all0)), g1_0, g1_1, g1_2, g1_3, g1_4, g1_5, g1_6, g1_7, g1_8, g1_9, g1_10, g1_11, g1_12, g1_13, g1_14, g1_15, g1_16, (by omega), (own_Old.mono (by assumption) (by omega)), (own_Old.mono (by assumption) (by omega))⟩
theorem d26_0 : decode prog_20_method_4_code 0 = .ok (.lload_n 1, 1) := by decide +kernel
theorem d26_1 : decode prog_20_method_4_code 1 = .ok (.lconst 1, 1) := by decide +kernel
theorem d26_2 : decode prog_20_method_4_code 2 = .ok (.lcmp, 1) := by decide +kernel
theorem d26_3 : decode prog_20_method_4_code 3 = .ok (.ifCond .ge 17, 3) := by decide +kernel
theorem d26_20 : decode prog_20_method_4_code 20 = .ok (.lload_n 3, 1) := by decide +kernel
theorem d26_21 : decode prog_20_method_4_code 21 = .ok (.lconst 1, 1) := by decide +kernel
theorem d26_22 : decode prog_20_method_4_code 22 = .ok (.lcmp, 1) := by decide +kernel
theorem d26_23 : decode prog_20_method_4_code 23 = .ok (.ifCond .ge 17, 3) := by decide +kernel
theorem d26_40 : decode prog_20_method_4_code 40 = .ok (.aload_n 0, 1) := by decide +kernel
theorem d26_41 : decode prog_20_method_4_code 41 = .ok (.getfield 22, 3) := by decide +kernel
theorem d26_44 : decode prog_20_method_4_code 44 = .ok (.lload_n 1, 1) := by decide +kernel
theorem d26_45 : decode prog_20_method_4_code 45 = .ok (.invokestatic 42, 3) := by decide +kernel
theorem d26_48 : decode prog_20_method_4_code 48 = .ok (.lconst 0, 1) := by decide +kernel
theorem d26_49 : decode prog_20_method_4_code 49 = .ok (.invokestatic 42, 3) := by decide +kernel
theorem d26_52 : decode prog_20_method_4_code 52 = .ok (.invokeinterface 46 3, 5) := by decide +kernel
theorem d26_57 : decode prog_20_method_4_code 57 = .ok (.checkcast 25, 3) := by decide +kernel
theorem d26_60 : decode prog_20_method_4_code 60 = .ok (.invokevirtual 52, 3) := by decide +kernel
theorem d26_63 : decode prog_20_method_4_code 63 = .ok (.lstore 5, 2) := by decide +kernel
theorem d26_65 : decode prog_20_method_4_code 65 = .ok (.lload 5, 2) := by decide +kernel
theorem d26_67 : decode prog_20_method_4_code 67 = .ok (.ldc2_w 27, 3) := by decide +kernel
theorem d26_70 : decode prog_20_method_4_code 70 = .ok (.lload_n 3, 1) := by decide +kernel
theorem d26_71 : decode prog_20_method_4_code 71 = .ok (.lsub, 1) := by decide +kernel
theorem d26_72 : decode prog_20_method_4_code 72 = .ok (.lcmp, 1) := by decide +kernel
theorem d26_73 : decode prog_20_method_4_code 73 = .ok (.ifCond .le 17, 3) := by decide +kernel
theorem d26_90 : decode prog_20_method_4_code 90 = .ok (.aload_n 0, 1) := by decide +kernel
theorem d26_91 : decode prog_20_method_4_code 91 = .ok (.getfield 22, 3) := by decide +kernel
theorem d26_94 : decode prog_20_method_4_code 94 = .ok (.lload_n 1, 1) := by decide +kernel
theorem d26_95 : decode prog_20_method_4_code 95 = .ok (.invokestatic 42, 3) := by decide +kernel
theorem d26_98 : decode prog_20_method_4_code 98 = .ok (.lload 5, 2) := by decide +kernel
theorem d26_100 : decode prog_20_method_4_code 100 = .ok (.lload_n 3, 1) := by decide +kernel
theorem d26_101 : decode prog_20_method_4_code 101 = .ok (.ladd, 1) := by decide +kernel
theorem d26_102 : decode prog_20_method_4_code 102 = .ok (.invokestatic 42, 3) := by decide +kernel
theorem d26_105 : decode prog_20_method_4_code 105 = .ok (.invokeinterface 59 3, 5) := by decide +kernel
theorem d26_110 : decode prog_20_method_4_code 110 = .ok (.pop, 1) := by decide +kernel
theorem d26_111 : decode prog_20_method_4_code 111 = .ok (.aload_n 0, 1) := by decide +kernel
theorem d26_112 : decode prog_20_method_4_code 112 = .ok (.areturn, 1) := by decide +kernel
theorem pn_26 : plainName "com/example/millwright/millwright/cut/Order$Builder" = true := by first | (simp [plainName, overriddenIn]; done) | decide +kernel
theorem ef_rm26 (m : MethodId) (x0 : Addr) (x1 : Int64) (x2 : Int64) : entryFrame m #[(.ref x0), (.long x1), (.long x2)] 7 = mkF m 0 #[.val (.ref x0), .val (.long x1), .second, .val (.long x2), .second, .unset, .unset] [] := by first | (simp [entryFrame, mkF, argsToLocals, Value.category]; done) | rfl
def Qrm26 (Z : State) (ab : Addr) (mc : Addr) (cmp : Addr) (cal : Addr) (pl : Int64) (pc : Int64) (h0 : Heap) (n0 : Nat) (v : Option Value) (h : Heap) (L : List Loc) : Prop := ∃ (ae : Addr) (ak : Addr) (av : Addr), (v = some (.ref ab)) ∧ (Fr n0 L) ∧ (Keep h0 h [mc]) ∧ (Exa Z h mc "java/util/TreeMap") ∧ (Fld Z h mc "java/util/TreeMap" "comparator" "Ljava/util/Comparator;" (.ref cmp)) ∧ (Fld Z h mc "java/util/TreeMap" "root" "Ljava/util/TreeMap$Entry;" (.ref ae)) ∧ (Fld Z h mc "java/util/TreeMap" "size" "I" (.int (1 : Int32))) ∧ (Fld Z h mc "java/util/TreeMap" "modCount" "I" (.int (1 : Int32))) ∧ (Fld Z h mc "java/util/TreeMap" "navigableKeySet" "Ljava/util/TreeMap$KeySet;" .null) ∧ (Fld Z h mc "java/util/TreeMap" "entrySet" "Ljava/util/TreeMap$EntrySet;" .null) ∧ (Exa Z h ae "java/util/TreeMap$Entry") ∧ (Fld Z h ae "java/util/TreeMap$Entry" "key" "Ljava/lang/Object;" (.ref ak)) ∧ (Fld Z h ae "java/util/TreeMap$Entry" "value" "Ljava/lang/Object;" (.ref av)) ∧ (Fld Z h ae "java/util/TreeMap$Entry" "left" "Ljava/util/TreeMap$Entry;" .null) ∧ (Fld Z h ae "java/util/TreeMap$Entry" "right" "Ljava/util/TreeMap$Entry;" .null) ∧ (Fld Z h ae "java/util/TreeMap$Entry" "parent" "Ljava/util/TreeMap$Entry;" .null) ∧ (Exa Z h ak "java/lang/Long") ∧ (Fld Z h ak "java/lang/Long" "value" "J" (.long pl)) ∧ (Exa Z h av "java/lang/Long") ∧ (Fld Z h av "java/lang/Long" "value" "J" (.long ((0 : Int64) + pc))) ∧ (h0.size ≤ ae) ∧ (own_Old ak n0 h0.size) ∧ (own_Old av n0 h0.size)
set_option maxRecDepth 65536 in
set_option maxHeartbeats 40000000 in
theorem rm26 (l : Launch) (Z : State) (a0 : Array Value) (hw : ∀ d ∈ tables_1, d.before a0 Z = true) (ws : List Jvm.Cond) (ab : Addr) (mc : Addr) (cmp : Addr) (cal : Addr) (pl : Int64) (pc : Int64) (h0 : Heap) (n0 : Nat) (Z0 : n0 ≤ h0.size) (pr1 : Exa Z h0 ab oS5) (pr2 : Fld Z h0 ab oS5 "counts" oS13 (.ref mc)) (pr3 : Exa Z h0 mc oS0) (pr4 : Fld Z h0 mc oS0 "comparator" oS6 (.ref cmp)) (pr5 : Fld Z h0 mc oS0 "root" oS2 .null) (pr6 : Fld Z h0 mc oS0 "size" "I" (.int (0 : Int32))) (pr7 : Fld Z h0 mc oS0 "modCount" "I" (.int (0 : Int32))) (pr8 : Fld Z h0 mc oS0 oS10 oS11 .null) (pr9 : Fld Z h0 mc oS0 "entrySet" oS12 .null) (pr10 : Exa Z h0 cmp oS21) (pr11 : n0 ≤ mc) (pr12 : own_D mc cmp) (pr13 : Sta Z h0 oS24 "cache" oS25 (.ref cal)) (pr14 : own_CacheV Z h0 cal n0) (hpl : ¬ pl < (1 : Int64)) (hpc : ¬ pc < (1 : Int64)) :
    MetFree l oM22 (head1 (Jvm.Cond.code oM22 prog_20_method_4_code 7 (some (.object oS5)) :: ws) ({ frames := 9, cells := 5, slots := 10, locals := 132 } : Room)) (fun a U => a = #[(.ref ab), (.long pl), (.long pc)] ∧ Z.Warmed39 U.vm ∧ U.heap = h0) (fun _ _ _ _ _ => True) (fun _ U o U' => ∃ v L, o = .returned v ∧ Qrm26 Z ab mc cmp cal pl pc h0 n0 v U'.heap L ∧ FrameEnd U o U' L ({ frames := 9, cells := 5, slots := 10, locals := 132 } : Room).cells ({ frames := 9, cells := 5, slots := 10, locals := 132 } : Room).slots) := by
  refine MetFree.of_bodySF (plainFor_of_name pn_26) hisR ?_
  intro p e s m args below meth c s₁ Bd hml0 hP0 hK
  obtain ⟨rfl, hZ, hh⟩ := hP0
  have hx := Bd.exec
  have hby := Bd.bytes
  have hml : c.maxLocals = 7 := hml0
  have hown : s.vm.findClass oS5 = some m.cls := findClass_of_methodNamed Bd.named
  have hnm := (name_of_methodNamed Bd.named Bd.method).1
  have X0 : Stand p l e ({ frames := 9, cells := 5, slots := 10, locals := 132 } : Room) s m #[(.ref ab), (.long pl), (.long pc)] below meth c s₁ [] 0 0 := Stand.of_body Bd
  have e0 : s₁.heap = h0 := by rw [← hh, Bd.state]; rfl
  have N0 := Fr.nil n0
  refine own_fin (st' := s₁.setTop (mkF m 0 #[oR ab, oj pl, .second, oj pc, .second, .unset, .unset] [])) (fun _ k => castTop (ef_rm26 m ab pl pc) k) (fun P hP => ?_)
  have lt_ab : @LT.lt Nat _ ab h0.size := pr1.lt
  have lt_mc : @LT.lt Nat _ mc h0.size := pr3.lt
  have lt_cmp : @LT.lt Nat _ cmp h0.size := pr10.lt
  have lt_cal : @LT.lt Nat _ cal h0.size := own_CacheV_lt pr14
  refine own_go (st' := s₁.setTop (mkF m 1 #[oR ab, oj pl, .second, oj pc, .second, .unset, .unset] [(.long pl)])) (fun _ k => XS.lloadN X0.here hx rfl (hb hby d26_0) rfl k) ?_
  refine own_go (st' := s₁.setTop (mkF m 2 #[oR ab, oj pl, .second, oj pc, .second, .unset, .unset] [(.long (1 : Int64)), (.long pl)])) (fun _ k => XS.lconst X0.here hx rfl (hb hby d26_1) k) ?_
  refine own_go (st' := s₁.setTop (mkF m 3 #[oR ab, oj pl, .second, oj pc, .second, .unset, .unset] [(.int (lcmpW pl (1 : Int64)))])) (fun _ k => XS.lcmp X0.here hx rfl (hb hby d26_2) rfl k) ?_
  have hc1 : ¬ (pl < (1 : Int64)) := hpl
  refine own_go (st' := s₁.setTop (mkF m 20 #[oR ab, oj pl, .second, oj pc, .second, .unset, .unset] [])) (fun _ k => XS.ifYes X0.here hx rfl (pc0 := 3) (pc' := 20) rfl (hb hby d26_3) rfl ((if0 _ _).trans (flt (fun q_ => hc1 ((lw_lt pl (1 : Int64)).mp q_))).2.1) (by decide) (by decide) k) ?_
  refine own_go (st' := s₁.setTop (mkF m 21 #[oR ab, oj pl, .second, oj pc, .second, .unset, .unset] [(.long pc)])) (fun _ k => XS.lloadN X0.here hx rfl (hb hby d26_20) rfl k) ?_
  refine own_go (st' := s₁.setTop (mkF m 22 #[oR ab, oj pl, .second, oj pc, .second, .unset, .unset] [(.long (1 : Int64)), (.long pc)])) (fun _ k => XS.lconst X0.here hx rfl (hb hby d26_21) k) ?_
  refine own_go (st' := s₁.setTop (mkF m 23 #[oR ab, oj pl, .second, oj pc, .second, .unset, .unset] [(.int (lcmpW pc (1 : Int64)))])) (fun _ k => XS.lcmp X0.here hx rfl (hb hby d26_22) rfl k) ?_
  have hc2 : ¬ (pc < (1 : Int64)) := hpc
  refine own_go (st' := s₁.setTop (mkF m 40 #[oR ab, oj pl, .second, oj pc, .second, .unset, .unset] [])) (fun _ k => XS.ifYes X0.here hx rfl (pc0 := 23) (pc' := 40) rfl (hb hby d26_23) rfl ((if0 _ _).trans (flt (fun q_ => hc2 ((lw_lt pc (1 : Int64)).mp q_))).2.1) (by decide) (by decide) k) ?_
  refine own_go (st' := s₁.setTop (mkF m 41 #[oR ab, oj pl, .second, oj pc, .second, .unset, .unset] [(.ref ab)])) (fun _ k => XS.aloadN X0.here hx rfl (hb hby d26_40) rfl rfl k) ?_
  obtain ⟨T3, X3, e3, st3⟩ := getF X0 hx hZ hown (host := "") (Or.inl (own_hw hw 38)) Via.refl e0 pr2 (g := (mkF m 41 #[oR ab, oj pl, .second, oj pc, .second, .unset, .unset] [(.ref ab)])) rfl rfl (hb hby d26_41)
  refine own_go (st' := T3.setTop (mkF m 44 #[oR ab, oj pl, .second, oj pc, .second, .unset, .unset] [(.ref mc)])) (st3) ?_
  refine own_go (st' := T3.setTop (mkF m 45 #[oR ab, oj pl, .second, oj pc, .second, .unset, .unset] [(.long pl), (.ref mc)])) (fun _ k => XS.lloadN X3.here hx rfl (hb hby d26_44) rfl k) ?_
  obtain ⟨_, _, ⟨T4, LC4, kC4, nC4⟩, -, X4, ⟨Lc4, hQ4, lq4, yq4, zq4⟩, st4⟩ := Jvm.LawKit.callS X3 hx (y := oM2) hown (mvT hZ (own_hw hw 51)) (mvT hZ (own_hw hw 52)) (mvT hZ (own_hw hw 53)) (mvT hZ (own_hw hw 54)) (by decide) (backOf (W := 1) (rm7 l Z a0 hw [] pl cal h0 n0 (by omega) pr13 pr14) hZ (own_hw hw 54) (own_hw hw 53) (by decide) (by decide)) (g := (mkF m 45 #[oR ab, oj pl, .second, oj pc, .second, .unset, .unset] [(.long pl), (.ref mc)])) rfl (by rw [hml]; rfl) (argsL := [(.long pl)]) (rest := [(.ref mc)]) (lenOf pd_14 rfl) rfl (by show 2 * 0 + _ ≤ _; exact Nat.le_of_eq rfl) (hb hby d26_45) (fun _ _ => ⟨rfl, e3, (by decide : 0 + 1 ≤ _), (by decide : 0 + 1 ≤ _)⟩)
  dsimp only [Pt.U, Pt.locs, Pt.cells, Pt.slots] at X4 lq4 yq4 zq4 st4 hQ4
  subst lq4 yq4 zq4
  obtain ⟨h4, e4⟩ : ∃ z, T4.heap = z := ⟨_, rfl⟩
  rw [e4] at hQ4
  obtain ⟨r_4, rfl, Nq4, K4, g4_0, g4_1, g4_2⟩ := hQ4
  have sz4 : h0.size ≤ h4.size := K4.1
  have N4 := Fr.app N0 Nq4
  have lt4_1 : @LT.lt Nat _ r_4 h4.size := g4_0.lt
  refine own_go (st' := T4.setTop (mkF m 48 #[oR ab, oj pl, .second, oj pc, .second, .unset, .unset] [(.ref r_4), (.ref mc)])) (fun t k => st4 t k) ?_
  refine own_go (st' := T4.setTop (mkF m 49 #[oR ab, oj pl, .second, oj pc, .second, .unset, .unset] [(.long (0 : Int64)), (.ref r_4), (.ref mc)])) (fun _ k => XS.lconst X4.here hx rfl (hb hby d26_48) k) ?_
  have c6 : Sta Z h4 oS24 "cache" oS25 (.ref cal) := (own_sta_keep pr13 K4 all0)
  have c7 : own_CacheV Z h4 cal n0 := (own_CacheV_keep pr14 K4 all0)
  obtain ⟨_, _, ⟨T5, LC5, kC5, nC5⟩, -, X5, ⟨Lc5, hQ5, lq5, yq5, zq5⟩, st5⟩ := Jvm.LawKit.callS X4 hx (y := oM2) hown (mvT hZ (own_hw hw 51)) (mvT hZ (own_hw hw 52)) (mvT hZ (own_hw hw 53)) (mvT hZ (own_hw hw 54)) (by decide) (backOf (W := 2) (rm7 l Z a0 hw [] (0 : Int64) cal h4 n0 (by omega) c6 c7) hZ (own_hw hw 54) (own_hw hw 53) (by decide) (by decide)) (g := (mkF m 49 #[oR ab, oj pl, .second, oj pc, .second, .unset, .unset] [(.long (0 : Int64)), (.ref r_4), (.ref mc)])) rfl (by rw [hml]; rfl) (argsL := [(.long (0 : Int64))]) (rest := [(.ref r_4), (.ref mc)]) (lenOf pd_14 rfl) rfl (by show 2 * 0 + _ ≤ _; exact Nat.le_of_eq rfl) (hb hby d26_49) (fun _ _ => ⟨rfl, e4, (by decide : 1 + 1 ≤ _), (by decide : 1 + 1 ≤ _)⟩)
  dsimp only [Pt.U, Pt.locs, Pt.cells, Pt.slots] at X5 lq5 yq5 zq5 st5 hQ5
  subst lq5 yq5 zq5
  obtain ⟨h5, e5⟩ : ∃ z, T5.heap = z := ⟨_, rfl⟩
  rw [e5] at hQ5
  obtain ⟨r_5, rfl, Nq5, K5, g5_0, g5_1, g5_2⟩ := hQ5
  have sz5 : h4.size ≤ h5.size := K5.1
  have N5 := Fr.app N4 Nq5
  have lt5_1 : @LT.lt Nat _ r_5 h5.size := g5_0.lt
  refine own_go (st' := T5.setTop (mkF m 52 #[oR ab, oj pl, .second, oj pc, .second, .unset, .unset] [(.ref r_5), (.ref r_4), (.ref mc)])) (fun t k => st5 t k) ?_
  have c9 : Exa Z h5 mc oS0 := ((pr3.keep K4).keep K5)
  have c10 : Fld Z h5 mc oS0 "comparator" oS6 (.ref cmp) := ((pr4.keep K4 nin0).keep K5 nin0)
  have c11 : Fld Z h5 mc oS0 "root" oS2 .null := ((pr5.keep K4 nin0).keep K5 nin0)
  obtain ⟨cq8, kq8, q8a, q8b, q8c⟩ := isOf hZ e5 c9
  obtain ⟨_, _, ⟨T8, LC8, kC8, nC8⟩, -, X8, ⟨Lc8, hQ8, lq8, yq8, zq8⟩, st8⟩ := X5.interfaceBackD hx (xi := oM10) (y := oM10) hown (mvT hZ (own_hw hw 59)) (mvT hZ (own_hw hw 60)) (mvT hZ (own_hw hw 61)) (mvD hZ (own_hw hw 62)) (mvT hZ (own_hw hw 63)) (mvT hZ (own_hw hw 64)) (mvT hZ (own_hw hw 65)) (by decide) (own_backN (W := 0) (rm8 l Z a0 hw [] mc cmp r_4 r_5 h5 n0 (by omega) c9 c10 c11) (plainFor_of_name pn_8) hZ (own_hw hw 66) (by decide) (by decide)) q8a q8b q8c (g := (mkF m 52 #[oR ab, oj pl, .second, oj pc, .second, .unset, .unset] [(.ref r_5), (.ref r_4), (.ref mc)])) rfl (by rw [hml]; rfl) (Steps.refl _) (argsL := [(.ref r_4), (.ref r_5)]) (rest := []) (lenOf pd_15 rfl) rfl (by show 2 * 0 + _ ≤ _; exact Nat.le_of_eq rfl) (hb hby d26_52) (fun _ _ => ⟨rfl, e5, (by decide : 2 + 0 ≤ _), (by decide : 2 + 0 ≤ _)⟩)
  dsimp only [Pt.U, Pt.locs, Pt.cells, Pt.slots] at X8 lq8 yq8 zq8 st8 hQ8
  subst lq8 yq8 zq8
  obtain ⟨rfl, Nq8, eq8⟩ := hQ8
  have N8 := Fr.app N5 Nq8
  refine own_go (st' := T8.setTop (mkF m 57 #[oR ab, oj pl, .second, oj pc, .second, .unset, .unset] [(.ref r_5)])) (fun _ k => st8.trans k) ?_
  obtain ⟨T12, X12, e12, st12⟩ := castY X8 hx hZ hown (own_hw hw 95) eq8 (Ins.self g5_0) (g := (mkF m 57 #[oR ab, oj pl, .second, oj pc, .second, .unset, .unset] [(.ref r_5)])) rfl rfl (hb hby d26_57)
  refine own_go (st' := T12.setTop (mkF m 60 #[oR ab, oj pl, .second, oj pc, .second, .unset, .unset] [(.ref r_5)])) (st12) ?_
  obtain ⟨cq13, kq13, q13a, q13b, q13c⟩ := isOf hZ e12 g5_0
  obtain ⟨_, _, ⟨T13, LC13, kC13, nC13⟩, -, X13, ⟨Lc13, hQ13, lq13, yq13, zq13⟩, st13⟩ := X12.virtualBack hx (y := oM0) (z := oM0) hown (mvT hZ (own_hw hw 97)) (mvT hZ (own_hw hw 98)) (notFace_of_selects (args := #[]) (mvT hZ (own_hw hw 100))) (mvT hZ (own_hw hw 100)) (mvT hZ (own_hw hw 99)) (by decide) (backOf (W := 0) (rm13 l Z a0 hw [] r_5 (0 : Int64) h5 n0 (by omega) g5_0 g5_1) hZ (own_hw hw 101) (own_hw hw 53) (by decide) (by decide)) q13a q13c (g := (mkF m 60 #[oR ab, oj pl, .second, oj pc, .second, .unset, .unset] [(.ref r_5)])) rfl (by rw [hml]; rfl) (Steps.refl _) (argsL := []) (rest := []) (lenOf pd_16 rfl) rfl (by show 2 * 0 + _ ≤ _; exact Nat.le_of_eq rfl) (hb hby d26_60) (fun _ _ => ⟨rfl, e12, (by decide : 2 + 0 ≤ _), (by decide : 2 + 0 ≤ _)⟩)
  dsimp only [Pt.U, Pt.locs, Pt.cells, Pt.slots] at X13 lq13 yq13 zq13 st13 hQ13
  subst lq13 yq13 zq13
  obtain ⟨rfl, Nq13, eq13⟩ := hQ13
  have N13 := Fr.app N8 Nq13
  refine own_go (st' := T13.setTop (mkF m 63 #[oR ab, oj pl, .second, oj pc, .second, .unset, .unset] [(.long (0 : Int64))])) (fun _ k => st13.trans k) ?_
  refine own_go (st' := T13.setTop (mkF m 65 #[oR ab, oj pl, .second, oj pc, .second, .val (.long (0 : Int64)), .second] [])) (fun _ k => XS.lstore X13.here hx rfl (hb hby d26_63) rfl (l' := #[oR ab, oj pl, .second, oj pc, .second, .val (.long (0 : Int64)), .second]) rfl k) ?_
  refine own_go (st' := T13.setTop (mkF m 67 #[oR ab, oj pl, .second, oj pc, .second, .val (.long (0 : Int64)), .second] [(.long (0 : Int64))])) (fun _ k => XS.lload X13.here hx rfl (hb hby d26_65) rfl k) ?_
  refine own_go (st' := T13.setTop (mkF m 70 #[oR ab, oj pl, .second, oj pc, .second, .val (.long (0 : Int64)), .second] [(.long (9223372036854775807 : Int64)), (.long (0 : Int64))])) (X13.ldc2Long hx hown (mvT hZ (own_hw hw 45)) (g := (mkF m 67 #[oR ab, oj pl, .second, oj pc, .second, .val (.long (0 : Int64)), .second] [(.long (0 : Int64))])) rfl (hb hby d26_67)) ?_
  refine own_go (st' := T13.setTop (mkF m 71 #[oR ab, oj pl, .second, oj pc, .second, .val (.long (0 : Int64)), .second] [(.long pc), (.long (9223372036854775807 : Int64)), (.long (0 : Int64))])) (fun _ k => XS.lloadN X13.here hx rfl (hb hby d26_70) rfl k) ?_
  refine own_go (st' := T13.setTop (mkF m 72 #[oR ab, oj pl, .second, oj pc, .second, .val (.long (0 : Int64)), .second] [(.long ((9223372036854775807 : Int64) - pc)), (.long (0 : Int64))])) (fun _ k => XS.lsub X13.here hx rfl (hb hby d26_71) rfl k) ?_
  refine own_go (st' := T13.setTop (mkF m 73 #[oR ab, oj pl, .second, oj pc, .second, .val (.long (0 : Int64)), .second] [(.int (lcmpW (0 : Int64) ((9223372036854775807 : Int64) - pc)))])) (fun _ k => XS.lcmp X13.here hx rfl (hb hby d26_72) rfl k) ?_
  have hc14 : ¬ (((9223372036854775807 : Int64) - pc) < (0 : Int64)) := (own_mx hpc)
  refine own_go (st' := T13.setTop (mkF m 90 #[oR ab, oj pl, .second, oj pc, .second, .val (.long (0 : Int64)), .second] [])) (fun _ k => XS.ifYes X13.here hx rfl (pc0 := 73) (pc' := 90) rfl (hb hby d26_73) rfl ((if0 _ _).trans (flt (fun q_ => hc14 ((lw_gt (0 : Int64) ((9223372036854775807 : Int64) - pc)).mp q_))).2.2.2) (by decide) (by decide) k) ?_
  refine own_go (st' := T13.setTop (mkF m 91 #[oR ab, oj pl, .second, oj pc, .second, .val (.long (0 : Int64)), .second] [(.ref ab)])) (fun _ k => XS.aloadN X13.here hx rfl (hb hby d26_90) rfl rfl k) ?_
  have c15 : Fld Z h5 ab oS5 "counts" oS13 (.ref mc) := ((pr2.keep K4 nin0).keep K5 nin0)
  obtain ⟨T16, X16, e16, st16⟩ := getF X13 hx hZ hown (host := "") (Or.inl (own_hw hw 38)) Via.refl eq13 c15 (g := (mkF m 91 #[oR ab, oj pl, .second, oj pc, .second, .val (.long (0 : Int64)), .second] [(.ref ab)])) rfl rfl (hb hby d26_91)
  refine own_go (st' := T16.setTop (mkF m 94 #[oR ab, oj pl, .second, oj pc, .second, .val (.long (0 : Int64)), .second] [(.ref mc)])) (st16) ?_
  refine own_go (st' := T16.setTop (mkF m 95 #[oR ab, oj pl, .second, oj pc, .second, .val (.long (0 : Int64)), .second] [(.long pl), (.ref mc)])) (fun _ k => XS.lloadN X16.here hx rfl (hb hby d26_94) rfl k) ?_
  have c18 : Sta Z h5 oS24 "cache" oS25 (.ref cal) := (own_sta_keep c6 K5 all0)
  have c19 : own_CacheV Z h5 cal n0 := (own_CacheV_keep c7 K5 all0)
  obtain ⟨_, _, ⟨T17, LC17, kC17, nC17⟩, -, X17, ⟨Lc17, hQ17, lq17, yq17, zq17⟩, st17⟩ := Jvm.LawKit.callS X16 hx (y := oM2) hown (mvT hZ (own_hw hw 51)) (mvT hZ (own_hw hw 52)) (mvT hZ (own_hw hw 53)) (mvT hZ (own_hw hw 54)) (by decide) (backOf (W := 1) (rm7 l Z a0 hw [] pl cal h5 n0 (by omega) c18 c19) hZ (own_hw hw 54) (own_hw hw 53) (by decide) (by decide)) (g := (mkF m 95 #[oR ab, oj pl, .second, oj pc, .second, .val (.long (0 : Int64)), .second] [(.long pl), (.ref mc)])) rfl (by rw [hml]; rfl) (argsL := [(.long pl)]) (rest := [(.ref mc)]) (lenOf pd_14 rfl) rfl (by show 2 * 0 + _ ≤ _; exact Nat.le_of_eq rfl) (hb hby d26_95) (fun _ _ => ⟨rfl, e16, (by decide : 2 + 1 ≤ _), (by decide : 2 + 1 ≤ _)⟩)
  dsimp only [Pt.U, Pt.locs, Pt.cells, Pt.slots] at X17 lq17 yq17 zq17 st17 hQ17
  subst lq17 yq17 zq17
  obtain ⟨h17, e17⟩ : ∃ z, T17.heap = z := ⟨_, rfl⟩
  rw [e17] at hQ17
  obtain ⟨r_17, rfl, Nq17, K17, g17_0, g17_1, g17_2⟩ := hQ17
  have sz17 : h5.size ≤ h17.size := K17.1
  have N17 := Fr.app N13 Nq17
  have lt17_1 : @LT.lt Nat _ r_17 h17.size := g17_0.lt
  refine own_go (st' := T17.setTop (mkF m 98 #[oR ab, oj pl, .second, oj pc, .second, .val (.long (0 : Int64)), .second] [(.ref r_17), (.ref mc)])) (fun t k => st17 t k) ?_
  refine own_go (st' := T17.setTop (mkF m 100 #[oR ab, oj pl, .second, oj pc, .second, .val (.long (0 : Int64)), .second] [(.long (0 : Int64)), (.ref r_17), (.ref mc)])) (fun _ k => XS.lload X17.here hx rfl (hb hby d26_98) rfl k) ?_
  refine own_go (st' := T17.setTop (mkF m 101 #[oR ab, oj pl, .second, oj pc, .second, .val (.long (0 : Int64)), .second] [(.long pc), (.long (0 : Int64)), (.ref r_17), (.ref mc)])) (fun _ k => XS.lloadN X17.here hx rfl (hb hby d26_100) rfl k) ?_
  refine own_go (st' := T17.setTop (mkF m 102 #[oR ab, oj pl, .second, oj pc, .second, .val (.long (0 : Int64)), .second] [(.long ((0 : Int64) + pc)), (.ref r_17), (.ref mc)])) (fun _ k => XS.ladd X17.here hx rfl (hb hby d26_101) rfl k) ?_
  have c21 : Sta Z h17 oS24 "cache" oS25 (.ref cal) := (own_sta_keep c18 K17 all0)
  have c22 : own_CacheV Z h17 cal n0 := (own_CacheV_keep c19 K17 all0)
  obtain ⟨_, _, ⟨T20, LC20, kC20, nC20⟩, -, X20, ⟨Lc20, hQ20, lq20, yq20, zq20⟩, st20⟩ := Jvm.LawKit.callS X17 hx (y := oM2) hown (mvT hZ (own_hw hw 51)) (mvT hZ (own_hw hw 52)) (mvT hZ (own_hw hw 53)) (mvT hZ (own_hw hw 54)) (by decide) (backOf (W := 2) (rm7 l Z a0 hw [] ((0 : Int64) + pc) cal h17 n0 (by omega) c21 c22) hZ (own_hw hw 54) (own_hw hw 53) (by decide) (by decide)) (g := (mkF m 102 #[oR ab, oj pl, .second, oj pc, .second, .val (.long (0 : Int64)), .second] [(.long ((0 : Int64) + pc)), (.ref r_17), (.ref mc)])) rfl (by rw [hml]; rfl) (argsL := [(.long ((0 : Int64) + pc))]) (rest := [(.ref r_17), (.ref mc)]) (lenOf pd_14 rfl) rfl (by show 2 * 0 + _ ≤ _; exact Nat.le_of_eq rfl) (hb hby d26_102) (fun _ _ => ⟨rfl, e17, (by decide : 3 + 1 ≤ _), (by decide : 3 + 1 ≤ _)⟩)
  dsimp only [Pt.U, Pt.locs, Pt.cells, Pt.slots] at X20 lq20 yq20 zq20 st20 hQ20
  subst lq20 yq20 zq20
  obtain ⟨h20, e20⟩ : ∃ z, T20.heap = z := ⟨_, rfl⟩
  rw [e20] at hQ20
  obtain ⟨r_20, rfl, Nq20, K20, g20_0, g20_1, g20_2⟩ := hQ20
  have sz20 : h17.size ≤ h20.size := K20.1
  have N20 := Fr.app N17 Nq20
  have lt20_1 : @LT.lt Nat _ r_20 h20.size := g20_0.lt
  refine own_go (st' := T20.setTop (mkF m 105 #[oR ab, oj pl, .second, oj pc, .second, .val (.long (0 : Int64)), .second] [(.ref r_20), (.ref r_17), (.ref mc)])) (fun t k => st20 t k) ?_
  have c24 : Exa Z h20 mc oS0 := ((c9.keep K17).keep K20)
  have c25 : Fld Z h20 mc oS0 "comparator" oS6 (.ref cmp) := ((c10.keep K17 nin0).keep K20 nin0)
  have c26 : Fld Z h20 mc oS0 "root" oS2 .null := ((c11.keep K17 nin0).keep K20 nin0)
  have c27 : Fld Z h20 mc oS0 "size" "I" (.int (0 : Int32)) := ((((pr6.keep K4 nin0).keep K5 nin0).keep K17 nin0).keep K20 nin0)
  have c28 : Fld Z h20 mc oS0 "modCount" "I" (.int (0 : Int32)) := ((((pr7.keep K4 nin0).keep K5 nin0).keep K17 nin0).keep K20 nin0)
  have c29 : Fld Z h20 mc oS0 oS10 oS11 .null := ((((pr8.keep K4 nin0).keep K5 nin0).keep K17 nin0).keep K20 nin0)
  have c30 : Fld Z h20 mc oS0 "entrySet" oS12 .null := ((((pr9.keep K4 nin0).keep K5 nin0).keep K17 nin0).keep K20 nin0)
  have c31 : Exa Z h20 r_17 oS3 := (g17_0.keep K20)
  have c32 : Fld Z h20 r_17 oS3 "value" "J" (.long pl) := (g17_1.keep K20 nin0)
  have c33 : Exa Z h20 cmp oS21 := ((((pr10.keep K4).keep K5).keep K17).keep K20)
  obtain ⟨cq23, kq23, q23a, q23b, q23c⟩ := isOf hZ e20 c24
  obtain ⟨_, _, ⟨T23, LC23, kC23, nC23⟩, -, X23, ⟨Lc23, hQ23, lq23, yq23, zq23⟩, st23⟩ := X20.interfaceBack hx (xi := oM66) (y := oM18) hown (mvT hZ (own_hw hw 116)) (mvT hZ (own_hw hw 117)) (mvT hZ (own_hw hw 118)) (mvT hZ (own_hw hw 119)) (mvT hZ (own_hw hw 120)) (mvT hZ (own_hw hw 121)) (mvT hZ (own_hw hw 122)) (mvT hZ (own_hw hw 65)) (by decide) (backOf (W := 0) (rm16 l Z a0 hw [] mc cmp r_20 r_17 pl h20 n0 (by omega) c24 c25 c26 c27 c28 c29 c30 c31 c32 c33 (by omega) own_nr own_nr) hZ (own_hw hw 123) (own_hw hw 17) (by decide) (by decide)) q23a q23b q23c (g := (mkF m 105 #[oR ab, oj pl, .second, oj pc, .second, .val (.long (0 : Int64)), .second] [(.ref r_20), (.ref r_17), (.ref mc)])) rfl (by rw [hml]; rfl) (Steps.refl _) (argsL := [(.ref r_17), (.ref r_20)]) (rest := []) (lenOf pd_15 rfl) rfl (by show 2 * 0 + _ ≤ _; exact Nat.le_of_eq rfl) (hb hby d26_105) (fun _ _ => ⟨rfl, e20, (by decide : 4 + 1 ≤ _), (by decide : 4 + 6 ≤ _)⟩)
  dsimp only [Pt.U, Pt.locs, Pt.cells, Pt.slots] at X23 lq23 yq23 zq23 st23 hQ23
  subst lq23 yq23 zq23
  obtain ⟨h23, e23⟩ : ∃ z, T23.heap = z := ⟨_, rfl⟩
  rw [e23] at hQ23
  obtain ⟨ae_23, rfl, Nq23, K23, g23_0, g23_1, g23_2, g23_3, g23_4, g23_5, g23_6, g23_7, g23_8, g23_9, g23_10, g23_11, g23_12, g23_13⟩ := hQ23
  have sz23 : h20.size ≤ h23.size := K23.1
  have N23 := Fr.app N20 Nq23
  have lt23_1 : @LT.lt Nat _ mc h23.size := g23_0.lt
  have lt23_2 : @LT.lt Nat _ ae_23 h23.size := g23_7.lt
  refine own_go (st' := T23.setTop (mkF m 110 #[oR ab, oj pl, .second, oj pc, .second, .val (.long (0 : Int64)), .second] [.null])) (fun _ k => st23.trans k) ?_
  refine own_go (st' := T23.setTop (mkF m 111 #[oR ab, oj pl, .second, oj pc, .second, .val (.long (0 : Int64)), .second] [])) (fun _ k => XS.pop X23.here hx rfl (hb hby d26_110) rfl rfl k) ?_
  refine own_go (st' := T23.setTop (mkF m 112 #[oR ab, oj pl, .second, oj pc, .second, .val (.long (0 : Int64)), .second] [(.ref ab)])) (fun _ k => XS.aloadN X23.here hx rfl (hb hby d26_111) rfl rfl k) ?_
  obtain ⟨fs, hr, hrun, hended, hW, hsame⟩ := X23.leave (v := some (.ref ab)) (fun h => by rw [Bd.returns] at h; cases h)
  refine ⟨_, _, ?_, hP _ _ hrun hended ⟨_, _, rfl, ?_, ⟨_, rfl⟩, hW, hsame.mono (by decide) (by decide)⟩⟩
  · exact retOut X23 hx Bd.returns rfl (Or.inr (Or.inr (Or.inr (Or.inr ⟨rfl, rfl, rfl⟩)))) (hb hby d26_112) hr
  · show Qrm26 Z ab mc cmp cal pl pc h0 n0 _ T23.heap _
    have c35 : Exa Z h23 r_17 oS3 := (c31.keep K23)
    have c36 : Fld Z h23 r_17 oS3 "value" "J" (.long pl) := (c32.keep K23 (ninS own_nq nin0))
    have c37 : Exa Z h23 r_20 oS3 := (g20_0.keep K23)
    have c38 : Fld Z h23 r_20 oS3 "value" "J" (.long ((0 : Int64) + pc)) := (g20_1.keep K23 (ninS own_nq nin0))
    rw [e23]
    exact ⟨ae_23, r_17, r_20, rfl, N23, ((((((Keep.refl h0 [mc]).trans K4 all0).trans K5 all0).trans K17 all0).trans K20 all0).trans K23 (allS (P := fun x => x ∈ [mc] ∨ h0.size ≤ x) (Or.inl (List.mem_of_getElem? (i := 0) rfl)) all0)), g23_0, g23_1, g23_2, g23_3, g23_4, g23_5, g23_6, g23_7, g23_8, g23_9, g23_10, g23_11, g23_12, c35, c36, c37, c38, (by omega), (own_Old.mono (by assumption) (by omega)), (own_Old.mono (by assumption) (by omega))⟩
theorem d29_0 : decode jdk_2729_method_5_code 0 = .ok (.aload_n 0, 1) := by decide +kernel
theorem d29_1 : decode jdk_2729_method_5_code 1 = .ok (.getfield 7, 3) := by decide +kernel
theorem d29_4 : decode jdk_2729_method_5_code 4 = .ok (.ireturn, 1) := by decide +kernel
theorem pn_29 : plainName "java/util/TreeMap" = true := by first | (simp [plainName, overriddenIn]; done) | decide +kernel
theorem ef_rm29 (m : MethodId) (x0 : Addr) : entryFrame m #[(.ref x0)] 1 = mkF m 0 #[.val (.ref x0)] [] := by first | (simp [entryFrame, mkF, argsToLocals, Value.category]; done) | rfl
def Qrm29 (Z : State) (am : Addr) (zs : Int32) (h0 : Heap) (n0 : Nat) (v : Option Value) (h : Heap) (L : List Loc) : Prop := (v = some (.int zs)) ∧ (Fr n0 L) ∧ (h = h0)
set_option maxRecDepth 65536 in
set_option maxHeartbeats 40000000 in
theorem rm29 (l : Launch) (Z : State) (a0 : Array Value) (hw : ∀ d ∈ tables_1, d.before a0 Z = true) (ws : List Jvm.Cond) (am : Addr) (zs : Int32) (h0 : Heap) (n0 : Nat) (Z0 : n0 ≤ h0.size) (pr1 : Fld Z h0 am oS0 "size" "I" (.int zs)) :
    MetFree l oM5 (head1 (Jvm.Cond.code oM5 jdk_2729_method_5_code 1 (some .int) :: ws) ({ frames := 0, cells := 0, slots := 0, locals := 0 } : Room)) (fun a U => a = #[(.ref am)] ∧ Z.Warmed39 U.vm ∧ U.heap = h0) (fun _ _ _ _ _ => True) (fun _ U o U' => ∃ v L, o = .returned v ∧ Qrm29 Z am zs h0 n0 v U'.heap L ∧ FrameEnd U o U' L ({ frames := 0, cells := 0, slots := 0, locals := 0 } : Room).cells ({ frames := 0, cells := 0, slots := 0, locals := 0 } : Room).slots) := by
  refine MetFree.of_bodySF (plainFor_of_name pn_29) hisR ?_
  intro p e s m args below meth c s₁ Bd hml0 hP0 hK
  obtain ⟨rfl, hZ, hh⟩ := hP0
  have hx := Bd.exec
  have hby := Bd.bytes
  have hml : c.maxLocals = 1 := hml0
  have hown : s.vm.findClass oS0 = some m.cls := findClass_of_methodNamed Bd.named
  have hnm := (name_of_methodNamed Bd.named Bd.method).1
  have X0 : Stand p l e ({ frames := 0, cells := 0, slots := 0, locals := 0 } : Room) s m #[(.ref am)] below meth c s₁ [] 0 0 := Stand.of_body Bd
  have e0 : s₁.heap = h0 := by rw [← hh, Bd.state]; rfl
  have N0 := Fr.nil n0
  refine own_fin (st' := s₁.setTop (mkF m 0 #[oR am] [])) (fun _ k => castTop (ef_rm29 m am) k) (fun P hP => ?_)
  have lt_am : @LT.lt Nat _ am h0.size := pr1.lt
  refine own_go (st' := s₁.setTop (mkF m 1 #[oR am] [(.ref am)])) (fun _ k => XS.aloadN X0.here hx rfl (hb hby d29_0) rfl rfl k) ?_
  obtain ⟨T1, X1, e1, st1⟩ := getF X0 hx hZ hown (host := "") (Or.inl (own_hw hw 30)) Via.refl e0 pr1 (g := (mkF m 1 #[oR am] [(.ref am)])) rfl rfl (hb hby d29_1)
  refine own_go (st' := T1.setTop (mkF m 4 #[oR am] [(.int zs)])) (st1) ?_
  obtain ⟨fs, hr, hrun, hended, hW, hsame⟩ := X1.leave (v := some (.int zs)) (fun h => by rw [Bd.returns] at h; cases h)
  refine ⟨_, _, ?_, hP _ _ hrun hended ⟨_, _, rfl, ?_, ⟨_, rfl⟩, hW, hsame.mono (by decide) (by decide)⟩⟩
  · exact retOut X1 hx Bd.returns rfl (Or.inl ⟨rfl, Or.inl rfl, _, rfl⟩) (hb hby d29_4) hr
  · show Qrm29 Z am zs h0 n0 _ T1.heap _
    rw [e1]
    exact ⟨rfl, N0, rfl⟩
theorem pd_18 : parseMethodDescriptor "()I" = some ⟨[], some .int⟩ := by decide +kernel
theorem d28_0 : decode jdk_71_method_3_code 0 = .ok (.aload_n 0, 1) := by decide +kernel
theorem d28_1 : decode jdk_71_method_3_code 1 = .ok (.invokevirtual 19, 3) := by decide +kernel
theorem d28_4 : decode jdk_71_method_3_code 4 = .ok (.ifCond .ne 7, 3) := by decide +kernel
theorem d28_11 : decode jdk_71_method_3_code 11 = .ok (.iconst 0, 1) := by decide +kernel
theorem d28_12 : decode jdk_71_method_3_code 12 = .ok (.ireturn, 1) := by decide +kernel
theorem pn_28 : plainName "java/util/AbstractMap" = true := by first | (simp [plainName, overriddenIn]; done) | decide +kernel
theorem ef_rm28 (m : MethodId) (x0 : Addr) : entryFrame m #[(.ref x0)] 1 = mkF m 0 #[.val (.ref x0)] [] := by first | (simp [entryFrame, mkF, argsToLocals, Value.category]; done) | rfl
def Qrm28 (Z : State) (am : Addr) (h0 : Heap) (n0 : Nat) (v : Option Value) (h : Heap) (L : List Loc) : Prop := (v = some (.int (0 : Int32))) ∧ (Fr n0 L) ∧ (h = h0)
set_option maxRecDepth 65536 in
set_option maxHeartbeats 40000000 in
theorem rm28 (l : Launch) (Z : State) (a0 : Array Value) (hw : ∀ d ∈ tables_1, d.before a0 Z = true) (ws : List Jvm.Cond) (am : Addr) (h0 : Heap) (n0 : Nat) (Z0 : n0 ≤ h0.size) (pr1 : Exa Z h0 am oS0) (pr2 : Fld Z h0 am oS0 "size" "I" (.int (1 : Int32))) :
    MetFree l oM11 (head1 (Jvm.Cond.code oM11 jdk_71_method_3_code 1 (some .boolean) :: ws) ({ frames := 1, cells := 0, slots := 0, locals := 12 } : Room)) (fun a U => a = #[(.ref am)] ∧ Z.Warmed39 U.vm ∧ U.heap = h0) (fun _ _ _ _ _ => True) (fun _ U o U' => ∃ v L, o = .returned v ∧ Qrm28 Z am h0 n0 v U'.heap L ∧ FrameEnd U o U' L ({ frames := 1, cells := 0, slots := 0, locals := 12 } : Room).cells ({ frames := 1, cells := 0, slots := 0, locals := 12 } : Room).slots) := by
  refine MetFree.of_bodySF (plainFor_of_name pn_28) hisR ?_
  intro p e s m args below meth c s₁ Bd hml0 hP0 hK
  obtain ⟨rfl, hZ, hh⟩ := hP0
  have hx := Bd.exec
  have hby := Bd.bytes
  have hml : c.maxLocals = 1 := hml0
  have hown : s.vm.findClass "java/util/AbstractMap" = some m.cls := findClass_of_methodNamed Bd.named
  have hnm := (name_of_methodNamed Bd.named Bd.method).1
  have X0 : Stand p l e ({ frames := 1, cells := 0, slots := 0, locals := 12 } : Room) s m #[(.ref am)] below meth c s₁ [] 0 0 := Stand.of_body Bd
  have e0 : s₁.heap = h0 := by rw [← hh, Bd.state]; rfl
  have N0 := Fr.nil n0
  refine own_fin (st' := s₁.setTop (mkF m 0 #[oR am] [])) (fun _ k => castTop (ef_rm28 m am) k) (fun P hP => ?_)
  have lt_am : @LT.lt Nat _ am h0.size := pr1.lt
  refine own_go (st' := s₁.setTop (mkF m 1 #[oR am] [(.ref am)])) (fun _ k => XS.aloadN X0.here hx rfl (hb hby d28_0) rfl rfl k) ?_
  obtain ⟨cq1, kq1, q1a, q1b, q1c⟩ := isOf hZ e0 pr1
  obtain ⟨_, _, ⟨T1, LC1, kC1, nC1⟩, -, X1, ⟨Lc1, hQ1, lq1, yq1, zq1⟩, st1⟩ := X0.virtualBack hx (y := (⟨"java/util/AbstractMap", "size", "()I"⟩ : MethodName)) (z := oM5) hown (mvT hZ (own_hw hw 206)) (mvT hZ (own_hw hw 207)) (own_nf_sel (args := #[]) (z := oM11) (mvT hZ (own_hw hw 201)) rfl) (mvT hZ (own_hw hw 209)) (mvT hZ (own_hw hw 210)) (by decide) (backOf (W := 0) (rm29 l Z a0 hw [] am (1 : Int32) h0 n0 (by omega) pr2) hZ (own_hw hw 211) (own_hw hw 17) (by decide) (by decide)) q1a q1c (g := (mkF m 1 #[oR am] [(.ref am)])) rfl (by rw [hml]; rfl) (Steps.refl _) (argsL := []) (rest := []) (lenOf pd_18 rfl) rfl (by show 2 * 0 + _ ≤ _; exact Nat.le_of_eq rfl) (hb hby d28_1) (fun _ _ => ⟨rfl, e0, (by decide : 0 + 0 ≤ _), (by decide : 0 + 0 ≤ _)⟩)
  dsimp only [Pt.U, Pt.locs, Pt.cells, Pt.slots] at X1 lq1 yq1 zq1 st1 hQ1
  subst lq1 yq1 zq1
  obtain ⟨rfl, Nq1, eq1⟩ := hQ1
  have N1 := Fr.app N0 Nq1
  refine own_go (st' := T1.setTop (mkF m 4 #[oR am] [(.int (1 : Int32))])) (fun _ k => st1.trans k) ?_
  have hc2 : ¬ ((1 : Int32) = (0 : Int32)) := by decide
  refine own_go (st' := T1.setTop (mkF m 11 #[oR am] [])) (fun _ k => XS.ifYes X1.here hx rfl (pc0 := 4) (pc' := 11) rfl (hb hby d28_4) rfl ((if0 _ _).trans (feq hc2).2) (by decide) (by decide) k) ?_
  refine own_go (st' := T1.setTop (mkF m 12 #[oR am] [(.int (0 : Int32))])) (fun _ k => XS.iconst X1.here hx rfl (hb hby d28_11) k) ?_
  obtain ⟨fs, hr, hrun, hended, hW, hsame⟩ := X1.leave (v := some (.int (0 : Int32))) (fun h => by rw [Bd.returns] at h; cases h)
  refine ⟨_, _, ?_, hP _ _ hrun hended ⟨_, _, rfl, ?_, ⟨_, rfl⟩, hW, hsame.mono (by decide) (by decide)⟩⟩
  · exact retN X1 hx (t := .boolean) Bd.returns (by simp) (hb hby d28_12) hr
  · show Qrm28 Z am h0 n0 _ T1.heap _
    rw [eq1]
    exact ⟨rfl, N1, rfl⟩
theorem d32_0 : decode jdk_2741_method_1_code 0 = .ok (.aload_n 0, 1) := by decide +kernel
theorem d32_1 : decode jdk_2741_method_1_code 1 = .ok (.invokespecial 1, 3) := by decide +kernel
theorem d32_4 : decode jdk_2741_method_1_code 4 = .ok (.aload_n 0, 1) := by decide +kernel
theorem d32_5 : decode jdk_2741_method_1_code 5 = .ok (.aload_n 1, 1) := by decide +kernel
theorem d32_6 : decode jdk_2741_method_1_code 6 = .ok (.putfield 7, 3) := by decide +kernel
theorem d32_9 : decode jdk_2741_method_1_code 9 = .ok (.return_, 1) := by decide +kernel
theorem pn_32 : plainName "java/util/TreeMap$KeySet" = true := by first | (simp [plainName, overriddenIn]; done) | decide +kernel
theorem ef_rm32 (m : MethodId) (x0 : Addr) (x1 : Addr) : entryFrame m #[(.ref x0), (.ref x1)] 2 = mkF m 0 #[.val (.ref x0), .val (.ref x1)] [] := by first | (simp [entryFrame, mkF, argsToLocals, Value.category]; done) | rfl
def Qrm32 (Z : State) (a1 : Addr) (am : Addr) (h0 : Heap) (n0 : Nat) (v : Option Value) (h : Heap) (L : List Loc) : Prop := (v = none) ∧ (Fr n0 L) ∧ (Keep h0 h [a1]) ∧ (Exa Z h a1 "java/util/TreeMap$KeySet") ∧ (Fld Z h a1 "java/util/TreeMap$KeySet" "m" "Ljava/util/NavigableMap;" (.ref am))
set_option maxRecDepth 65536 in
set_option maxHeartbeats 40000000 in
theorem rm32 (l : Launch) (Z : State) (a0 : Array Value) (hw : ∀ d ∈ tables_1, d.before a0 Z = true) (ws : List Jvm.Cond) (a1 : Addr) (am : Addr) (h0 : Heap) (n0 : Nat) (Z0 : n0 ≤ h0.size) (pr1 : Exa Z h0 a1 oS15) (pr2 : Fld Z h0 a1 oS15 "m" oS30 .null) (pr3 : n0 ≤ a1) :
    MetFree l oM60 (head1 (Jvm.Cond.code oM60 jdk_2741_method_1_code 2 none :: ws) ({ frames := 3, cells := 0, slots := 0, locals := 36 } : Room)) (fun a U => a = #[(.ref a1), (.ref am)] ∧ Z.Warmed39 U.vm ∧ U.heap = h0) (fun _ _ _ _ _ => True) (fun _ U o U' => ∃ v L, o = .returned v ∧ Qrm32 Z a1 am h0 n0 v U'.heap L ∧ FrameEnd U o U' L ({ frames := 3, cells := 0, slots := 0, locals := 36 } : Room).cells ({ frames := 3, cells := 0, slots := 0, locals := 36 } : Room).slots) := by
  refine MetFree.of_bodySF (plainFor_of_name pn_32) hisR ?_
  intro p e s m args below meth c s₁ Bd hml0 hP0 hK
  obtain ⟨rfl, hZ, hh⟩ := hP0
  have hx := Bd.exec
  have hby := Bd.bytes
  have hml : c.maxLocals = 2 := hml0
  have hown : s.vm.findClass oS15 = some m.cls := findClass_of_methodNamed Bd.named
  have hnm := (name_of_methodNamed Bd.named Bd.method).1
  have X0 : Stand p l e ({ frames := 3, cells := 0, slots := 0, locals := 36 } : Room) s m #[(.ref a1), (.ref am)] below meth c s₁ [] 0 0 := Stand.of_body Bd
  have e0 : s₁.heap = h0 := by rw [← hh, Bd.state]; rfl
  have N0 := Fr.nil n0
  refine own_fin (st' := s₁.setTop (mkF m 0 #[oR a1, oR am] [])) (fun _ k => castTop (ef_rm32 m a1 am) k) (fun P hP => ?_)
  have lt_a1 : @LT.lt Nat _ a1 h0.size := pr1.lt
  refine own_go (st' := s₁.setTop (mkF m 1 #[oR a1, oR am] [(.ref a1)])) (fun _ k => XS.aloadN X0.here hx rfl (hb hby d32_0) rfl rfl k) ?_
  obtain ⟨_, _, ⟨T1, LC1, kC1, nC1⟩, -, X1, ⟨Lc1, hQ1, lq1, yq1, zq1⟩, st1⟩ := X0.specialBack hx (y := oM13) rfl hown (mvT hZ (own_hw hw 234)) (mvT hZ (own_hw hw 235)) (mvT hZ (own_hw hw 239)) (by decide) (backOf (W := 0) (rm33 l Z a0 hw [] a1 h0 n0 (by omega) ) hZ (own_hw hw 239) (own_hw hw 238) (by decide) (by decide)) (g := (mkF m 1 #[oR a1, oR am] [(.ref a1)])) rfl (by rw [hml]; rfl) (Steps.refl _) (a := a1) (argsL := []) (rest := []) (lenOf pd_0 rfl) rfl (by show 2 * 0 + _ ≤ _; exact Nat.le_of_eq rfl) (hb hby d32_1) (fun _ _ => ⟨rfl, e0, (by decide : 0 + 0 ≤ _), (by decide : 0 + 0 ≤ _)⟩)
  dsimp only [Pt.U, Pt.locs, Pt.cells, Pt.slots] at X1 lq1 yq1 zq1 st1 hQ1
  subst lq1 yq1 zq1
  obtain ⟨rfl, Nq1, eq1⟩ := hQ1
  have N1 := Fr.app N0 Nq1
  refine own_go (st' := T1.setTop (mkF m 4 #[oR a1, oR am] [])) (fun _ k => st1.trans k) ?_
  refine own_go (st' := T1.setTop (mkF m 5 #[oR a1, oR am] [(.ref a1)])) (fun _ k => XS.aloadN X1.here hx rfl (hb hby d32_4) rfl rfl k) ?_
  refine own_go (st' := T1.setTop (mkF m 6 #[oR a1, oR am] [(.ref am), (.ref a1)])) (fun _ k => XS.aloadN X1.here hx rfl (hb hby d32_5) rfl rfl k) ?_
  obtain ⟨T2, h2, X2, e2, W2, st2⟩ := putF X1 hx hZ hown (host := "") (Or.inl (own_hw hw 247)) Via.refl eq1 pr2 pr1 (Or.inr ⟨(own_hw hw 248), rfl, hnm⟩) (own_hw hw 228) (ty := (.object "java/util/NavigableMap")) (by decide) rfl rfl (g := (mkF m 6 #[oR a1, oR am] [(.ref am), (.ref a1)])) rfl rfl (hb hby d32_6)
  have sz2 : h2.size = h0.size := W2.size
  have N2 := Fr.snoc X2 N1 (by omega)
  have f2 : Fld Z h2 a1 oS15 "m" oS30 (.ref am) := pr2.same W2
  refine own_go (st' := T2.setTop (mkF m 9 #[oR a1, oR am] [])) (st2) ?_
  obtain ⟨fs, hr, hrun, hended, hW, hsame⟩ := X2.leave (v := none) (fun _ => rfl)
  refine ⟨_, _, ?_, hP _ _ hrun hended ⟨_, _, rfl, ?_, ⟨_, rfl⟩, hW, hsame.mono (by decide) (by decide)⟩⟩
  · exact X2.returnOut hx Bd.returns (hb hby d32_9) hr
  · show Qrm32 Z a1 am h0 n0 _ T2.heap _
    have c4 : Exa Z h2 a1 oS15 := (pr1.wr W2)
    rw [e2]
    exact ⟨rfl, N2, ((Keep.refl h0 [a1]).wr W2 (Or.inl (List.mem_of_getElem? (i := 0) rfl))), c4, f2⟩
theorem pd_19 : parseMethodDescriptor "(Ljava/util/NavigableMap;)V" = some ⟨[(.object "java/util/NavigableMap")], none⟩ := by decide +kernel
theorem d31_0 : decode jdk_2729_method_50_code 0 = .ok (.aload_n 0, 1) := by decide +kernel
theorem d31_1 : decode jdk_2729_method_50_code 1 = .ok (.getfield 191, 3) := by decide +kernel
theorem d31_4 : decode jdk_2729_method_50_code 4 = .ok (.astore_n 1, 1) := by decide +kernel
theorem d31_5 : decode jdk_2729_method_50_code 5 = .ok (.aload_n 1, 1) := by decide +kernel
theorem d31_6 : decode jdk_2729_method_50_code 6 = .ok (.ifnull 7, 3) := by decide +kernel
theorem d31_13 : decode jdk_2729_method_50_code 13 = .ok (.aload_n 0, 1) := by decide +kernel
theorem d31_14 : decode jdk_2729_method_50_code 14 = .ok (.new 222, 3) := by decide +kernel
theorem d31_17 : decode jdk_2729_method_50_code 17 = .ok (.dup, 1) := by decide +kernel
theorem d31_18 : decode jdk_2729_method_50_code 18 = .ok (.aload_n 0, 1) := by decide +kernel
theorem d31_19 : decode jdk_2729_method_50_code 19 = .ok (.invokespecial 224, 3) := by decide +kernel
theorem d31_22 : decode jdk_2729_method_50_code 22 = .ok (.dup_x1, 1) := by decide +kernel
theorem d31_23 : decode jdk_2729_method_50_code 23 = .ok (.putfield 191, 3) := by decide +kernel
theorem d31_26 : decode jdk_2729_method_50_code 26 = .ok (.areturn, 1) := by decide +kernel
theorem pn_31 : plainName "java/util/TreeMap" = true := by first | (simp [plainName, overriddenIn]; done) | decide +kernel
theorem ef_rm31 (m : MethodId) (x0 : Addr) : entryFrame m #[(.ref x0)] 2 = mkF m 0 #[.val (.ref x0), .unset] [] := by first | (simp [entryFrame, mkF, argsToLocals, Value.category]; done) | rfl
def Qrm31 (Z : State) (am : Addr) (cmp : Addr) (ar : Addr) (h0 : Heap) (n0 : Nat) (v : Option Value) (h : Heap) (L : List Loc) : Prop := ∃ (ks : Addr), (v = some (.ref ks)) ∧ (Fr n0 L) ∧ (Keep h0 h [am]) ∧ (Exa Z h am "java/util/TreeMap") ∧ (Fld Z h am "java/util/TreeMap" "comparator" "Ljava/util/Comparator;" (.ref cmp)) ∧ (Fld Z h am "java/util/TreeMap" "root" "Ljava/util/TreeMap$Entry;" (.ref ar)) ∧ (Fld Z h am "java/util/TreeMap" "size" "I" (.int (1 : Int32))) ∧ (Fld Z h am "java/util/TreeMap" "modCount" "I" (.int (1 : Int32))) ∧ (Fld Z h am "java/util/TreeMap" "navigableKeySet" "Ljava/util/TreeMap$KeySet;" (.ref ks)) ∧ (Fld Z h am "java/util/TreeMap" "entrySet" "Ljava/util/TreeMap$EntrySet;" .null) ∧ (Exa Z h ks "java/util/TreeMap$KeySet") ∧ (Fld Z h ks "java/util/TreeMap$KeySet" "m" "Ljava/util/NavigableMap;" (.ref am)) ∧ (h0.size ≤ ks)
set_option maxRecDepth 65536 in
set_option maxHeartbeats 40000000 in
theorem rm31 (l : Launch) (Z : State) (a0 : Array Value) (hw : ∀ d ∈ tables_1, d.before a0 Z = true) (ws : List Jvm.Cond) (am : Addr) (cmp : Addr) (ar : Addr) (h0 : Heap) (n0 : Nat) (Z0 : n0 ≤ h0.size) (pr1 : Exa Z h0 am oS0) (pr2 : Fld Z h0 am oS0 "comparator" oS6 (.ref cmp)) (pr3 : Fld Z h0 am oS0 "root" oS2 (.ref ar)) (pr4 : Fld Z h0 am oS0 "size" "I" (.int (1 : Int32))) (pr5 : Fld Z h0 am oS0 "modCount" "I" (.int (1 : Int32))) (pr6 : Fld Z h0 am oS0 oS10 oS11 .null) (pr7 : Fld Z h0 am oS0 "entrySet" oS12 .null) (pr8 : n0 ≤ am) :
    MetFree l oM23 (head1 (Jvm.Cond.code oM23 jdk_2729_method_50_code 2 (some (.object "java/util/NavigableSet")) :: ws) ({ frames := 4, cells := 1, slots := 1, locals := 51 } : Room)) (fun a U => a = #[(.ref am)] ∧ Z.Warmed39 U.vm ∧ U.heap = h0) (fun _ _ _ _ _ => True) (fun _ U o U' => ∃ v L, o = .returned v ∧ Qrm31 Z am cmp ar h0 n0 v U'.heap L ∧ FrameEnd U o U' L ({ frames := 4, cells := 1, slots := 1, locals := 51 } : Room).cells ({ frames := 4, cells := 1, slots := 1, locals := 51 } : Room).slots) := by
  refine MetFree.of_bodySF (plainFor_of_name pn_31) hisR ?_
  intro p e s m args below meth c s₁ Bd hml0 hP0 hK
  obtain ⟨rfl, hZ, hh⟩ := hP0
  have hx := Bd.exec
  have hby := Bd.bytes
  have hml : c.maxLocals = 2 := hml0
  have hown : s.vm.findClass oS0 = some m.cls := findClass_of_methodNamed Bd.named
  have hnm := (name_of_methodNamed Bd.named Bd.method).1
  have X0 : Stand p l e ({ frames := 4, cells := 1, slots := 1, locals := 51 } : Room) s m #[(.ref am)] below meth c s₁ [] 0 0 := Stand.of_body Bd
  have e0 : s₁.heap = h0 := by rw [← hh, Bd.state]; rfl
  have N0 := Fr.nil n0
  refine own_fin (st' := s₁.setTop (mkF m 0 #[oR am, .unset] [])) (fun _ k => castTop (ef_rm31 m am) k) (fun P hP => ?_)
  have lt_am : @LT.lt Nat _ am h0.size := pr1.lt
  refine own_go (st' := s₁.setTop (mkF m 1 #[oR am, .unset] [(.ref am)])) (fun _ k => XS.aloadN X0.here hx rfl (hb hby d31_0) rfl rfl k) ?_
  obtain ⟨T1, X1, e1, st1⟩ := getF X0 hx hZ hown (host := "") (Or.inl (own_hw hw 225)) Via.refl e0 pr6 (g := (mkF m 1 #[oR am, .unset] [(.ref am)])) rfl rfl (hb hby d31_1)
  refine own_go (st' := T1.setTop (mkF m 4 #[oR am, .unset] [.null])) (st1) ?_
  refine own_go (st' := T1.setTop (mkF m 5 #[oR am, .val .null] [])) (fun _ k => XS.astoreN X1.here hx rfl (hb hby d31_4) rfl rfl (l' := #[oR am, .val .null]) rfl k) ?_
  refine own_go (st' := T1.setTop (mkF m 6 #[oR am, .val .null] [.null])) (fun _ k => XS.aloadN X1.here hx rfl (hb hby d31_5) rfl rfl k) ?_
  refine own_go (st' := T1.setTop (mkF m 13 #[oR am, .val .null] [])) (fun _ k => XS.ifnullYes X1.here hx rfl (pc0 := 6) (pc' := 13) rfl (hb hby d31_6) rfl (by decide) (by decide) k) ?_
  refine own_go (st' := T1.setTop (mkF m 14 #[oR am, .val .null] [(.ref am)])) (fun _ k => XS.aloadN X1.here hx rfl (hb hby d31_13) rfl rfl k) ?_
  obtain ⟨T2, h2, X2, e2, E2, A2, D2, -, st2⟩ := newO X1 hx hZ hown (own_hw hw 227) (own_hw hw 228) (own_hw hw 229) e1 (g := (mkF m 14 #[oR am, .val .null] [(.ref am)])) rfl (hb hby d31_14) (by decide) (by decide)
  obtain ⟨b2, g2⟩ : ∃ z, z = h0.size := ⟨_, rfl⟩
  rw [← g2] at A2 D2 st2
  have sz2 : h0.size ≤ h2.size := E2.1
  have lt2 : @LT.lt Nat _ b2 h2.size := A2.lt
  have f3 : Fld Z h2 b2 oS15 "m" oS30 .null := D2 (Or.inr (own_hw hw 248)) (ty := (.object "java/util/NavigableMap")) (by decide)
  refine own_go (st' := T2.setTop (mkF m 17 #[oR am, .val .null] [(.ref b2), (.ref am)])) (st2) ?_
  refine own_go (st' := T2.setTop (mkF m 18 #[oR am, .val .null] [(.ref b2), (.ref b2), (.ref am)])) (fun _ k => XS.dup X2.here hx rfl (hb hby d31_17) rfl rfl k) ?_
  refine own_go (st' := T2.setTop (mkF m 19 #[oR am, .val .null] [(.ref am), (.ref b2), (.ref b2), (.ref am)])) (fun _ k => XS.aloadN X2.here hx rfl (hb hby d31_18) rfl rfl k) ?_
  obtain ⟨_, _, ⟨T4, LC4, kC4, nC4⟩, -, X4, ⟨Lc4, hQ4, lq4, yq4, zq4⟩, st4⟩ := X2.specialBack hx (y := oM60) rfl hown (mvT hZ (own_hw hw 230)) (mvT hZ (own_hw hw 231)) (mvT hZ (own_hw hw 233)) (by decide) (backOf (W := 2) (rm32 l Z a0 hw [] b2 am h2 n0 (by omega) A2 f3 (by omega)) hZ (own_hw hw 233) (own_hw hw 229) (by decide) (by decide)) (g := (mkF m 19 #[oR am, .val .null] [(.ref am), (.ref b2), (.ref b2), (.ref am)])) rfl (by rw [hml]; rfl) (Steps.refl _) (a := b2) (argsL := [(.ref am)]) (rest := [(.ref b2), (.ref am)]) (lenOf pd_19 rfl) rfl (by show 2 * 0 + _ ≤ _; exact Nat.le_of_eq rfl) (hb hby d31_19) (fun _ _ => ⟨rfl, e2, (by decide : 1 + 0 ≤ _), (by decide : 1 + 0 ≤ _)⟩)
  dsimp only [Pt.U, Pt.locs, Pt.cells, Pt.slots] at X4 lq4 yq4 zq4 st4 hQ4
  subst lq4 yq4 zq4
  obtain ⟨h4, e4⟩ : ∃ z, T4.heap = z := ⟨_, rfl⟩
  rw [e4] at hQ4
  obtain ⟨rfl, Nq4, K4, g4_0, g4_1⟩ := hQ4
  have sz4 : h2.size ≤ h4.size := K4.1
  have N4 := Fr.app N0 Nq4
  have lt4_1 : @LT.lt Nat _ b2 h4.size := g4_0.lt
  refine own_go (st' := T4.setTop (mkF m 22 #[oR am, .val .null] [(.ref b2), (.ref am)])) (fun _ k => st4.trans k) ?_
  refine own_go (st' := T4.setTop (mkF m 23 #[oR am, .val .null] [(.ref b2), (.ref am), (.ref b2)])) (fun _ k => XS.dupX1 X4.here hx rfl (hb hby d31_22) rfl rfl rfl k) ?_
  have c5 : Fld Z h4 am oS0 oS10 oS11 .null := ((pr6.ext E2).keep K4 (ninS own_nq nin0))
  have c6 : Exa Z h4 am oS0 := ((pr1.ext E2).keep K4)
  obtain ⟨T7, h7, X7, e7, W7, st7⟩ := putF X4 hx hZ hown (host := "") (Or.inl (own_hw hw 225)) Via.refl e4 c5 c6 (Or.inl (own_hw hw 226)) (own_hw hw 16) (ty := (.object oS15)) (by decide) rfl rfl (g := (mkF m 23 #[oR am, .val .null] [(.ref b2), (.ref am), (.ref b2)])) rfl rfl (hb hby d31_23)
  have sz7 : h7.size = h4.size := W7.size
  have N7 := Fr.snoc X7 N4 (by omega)
  have f7 : Fld Z h7 am oS0 oS10 oS11 (.ref b2) := c5.same W7
  refine own_go (st' := T7.setTop (mkF m 26 #[oR am, .val .null] [(.ref b2)])) (st7) ?_
  obtain ⟨fs, hr, hrun, hended, hW, hsame⟩ := X7.leave (v := some (.ref b2)) (fun h => by rw [Bd.returns] at h; cases h)
  refine ⟨_, _, ?_, hP _ _ hrun hended ⟨_, _, rfl, ?_, ⟨_, rfl⟩, hW, hsame.mono (by decide) (by decide)⟩⟩
  · exact retOut X7 hx Bd.returns rfl (Or.inr (Or.inr (Or.inr (Or.inr ⟨rfl, rfl, rfl⟩)))) (hb hby d31_26) hr
  · show Qrm31 Z am cmp ar h0 n0 _ T7.heap _
    have c9 : Exa Z h7 am oS0 := (c6.wr W7)
    have c10 : Fld Z h7 am oS0 "comparator" oS6 (.ref cmp) := (((pr2.ext E2).keep K4 (ninS own_nq nin0)).other W7 (Or.inr (slot_ne (Or.inr (own_hw hw 35)) (Or.inl (own_hw hw 226)) (by decide) (t := (.object oS23)) (t' := (.object oS15)) (by decide) (by decide))))
    have c11 : Fld Z h7 am oS0 "root" oS2 (.ref ar) := (((pr3.ext E2).keep K4 (ninS own_nq nin0)).other W7 (Or.inr (slot_ne (Or.inl (own_hw hw 86)) (Or.inl (own_hw hw 226)) (by decide) (t := (.object oS1)) (t' := (.object oS15)) (by decide) (by decide))))
    have c12 : Fld Z h7 am oS0 "size" "I" (.int (1 : Int32)) := (((pr4.ext E2).keep K4 (ninS own_nq nin0)).other W7 (Or.inr (slot_ne (Or.inl (own_hw hw 31)) (Or.inl (own_hw hw 226)) (by decide) (t := .int) (t' := (.object oS15)) (by decide) (by decide))))
    have c13 : Fld Z h7 am oS0 "modCount" "I" (.int (1 : Int32)) := (((pr5.ext E2).keep K4 (ninS own_nq nin0)).other W7 (Or.inr (slot_ne (Or.inl (own_hw hw 33)) (Or.inl (own_hw hw 226)) (by decide) (t := .int) (t' := (.object oS15)) (by decide) (by decide))))
    have c14 : Fld Z h7 am oS0 "entrySet" oS12 .null := (((pr7.ext E2).keep K4 (ninS own_nq nin0)).other W7 (Or.inr (slot_ne (Or.inl (own_hw hw 333)) (Or.inl (own_hw hw 226)) (by decide) (t := (.object oS14)) (t' := (.object oS15)) (by decide) (by decide))))
    have c15 : Exa Z h7 b2 oS15 := (g4_0.wr W7)
    have c16 : Fld Z h7 b2 oS15 "m" oS30 (.ref am) := (g4_1.other W7 (Or.inl own_nq))
    rw [e7]
    exact ⟨b2, rfl, N7, ((((Keep.refl h0 [am]).ext E2).trans K4 (allS (P := fun x => x ∈ [am] ∨ h0.size ≤ x) (Or.inr (by omega)) all0)).wr W7 (Or.inl (List.mem_of_getElem? (i := 0) rfl))), c9, c10, c11, c12, c13, f7, c14, c15, c16, (by omega)⟩
theorem pd_20 : parseMethodDescriptor "()Ljava/util/NavigableSet;" = some ⟨[], some (.object "java/util/NavigableSet")⟩ := by decide +kernel
theorem d30_0 : decode jdk_2729_method_49_code 0 = .ok (.aload_n 0, 1) := by decide +kernel
theorem d30_1 : decode jdk_2729_method_49_code 1 = .ok (.invokevirtual 219, 3) := by decide +kernel
theorem d30_4 : decode jdk_2729_method_49_code 4 = .ok (.areturn, 1) := by decide +kernel
theorem pn_30 : plainName "java/util/TreeMap" = true := by first | (simp [plainName, overriddenIn]; done) | decide +kernel
theorem ef_rm30 (m : MethodId) (x0 : Addr) : entryFrame m #[(.ref x0)] 1 = mkF m 0 #[.val (.ref x0)] [] := by first | (simp [entryFrame, mkF, argsToLocals, Value.category]; done) | rfl
def Qrm30 (Z : State) (am : Addr) (cmp : Addr) (ar : Addr) (h0 : Heap) (n0 : Nat) (v : Option Value) (h : Heap) (L : List Loc) : Prop := ∃ (ks : Addr), (v = some (.ref ks)) ∧ (Fr n0 L) ∧ (Keep h0 h [am]) ∧ (Exa Z h am "java/util/TreeMap") ∧ (Fld Z h am "java/util/TreeMap" "comparator" "Ljava/util/Comparator;" (.ref cmp)) ∧ (Fld Z h am "java/util/TreeMap" "root" "Ljava/util/TreeMap$Entry;" (.ref ar)) ∧ (Fld Z h am "java/util/TreeMap" "size" "I" (.int (1 : Int32))) ∧ (Fld Z h am "java/util/TreeMap" "modCount" "I" (.int (1 : Int32))) ∧ (Fld Z h am "java/util/TreeMap" "navigableKeySet" "Ljava/util/TreeMap$KeySet;" (.ref ks)) ∧ (Fld Z h am "java/util/TreeMap" "entrySet" "Ljava/util/TreeMap$EntrySet;" .null) ∧ (Exa Z h ks "java/util/TreeMap$KeySet") ∧ (Fld Z h ks "java/util/TreeMap$KeySet" "m" "Ljava/util/NavigableMap;" (.ref am)) ∧ (h0.size ≤ ks)
set_option maxRecDepth 65536 in
set_option maxHeartbeats 40000000 in
theorem rm30 (l : Launch) (Z : State) (a0 : Array Value) (hw : ∀ d ∈ tables_1, d.before a0 Z = true) (ws : List Jvm.Cond) (am : Addr) (cmp : Addr) (ar : Addr) (h0 : Heap) (n0 : Nat) (Z0 : n0 ≤ h0.size) (pr1 : Exa Z h0 am oS0) (pr2 : Fld Z h0 am oS0 "comparator" oS6 (.ref cmp)) (pr3 : Fld Z h0 am oS0 "root" oS2 (.ref ar)) (pr4 : Fld Z h0 am oS0 "size" "I" (.int (1 : Int32))) (pr5 : Fld Z h0 am oS0 "modCount" "I" (.int (1 : Int32))) (pr6 : Fld Z h0 am oS0 oS10 oS11 .null) (pr7 : Fld Z h0 am oS0 "entrySet" oS12 .null) (pr8 : n0 ≤ am) :
    MetFree l oM24 (head1 (Jvm.Cond.code oM24 jdk_2729_method_49_code 1 (some (.object "java/util/Set")) :: ws) ({ frames := 5, cells := 1, slots := 1, locals := 64 } : Room)) (fun a U => a = #[(.ref am)] ∧ Z.Warmed39 U.vm ∧ U.heap = h0) (fun _ _ _ _ _ => True) (fun _ U o U' => ∃ v L, o = .returned v ∧ Qrm30 Z am cmp ar h0 n0 v U'.heap L ∧ FrameEnd U o U' L ({ frames := 5, cells := 1, slots := 1, locals := 64 } : Room).cells ({ frames := 5, cells := 1, slots := 1, locals := 64 } : Room).slots) := by
  refine MetFree.of_bodySF (plainFor_of_name pn_30) hisR ?_
  intro p e s m args below meth c s₁ Bd hml0 hP0 hK
  obtain ⟨rfl, hZ, hh⟩ := hP0
  have hx := Bd.exec
  have hby := Bd.bytes
  have hml : c.maxLocals = 1 := hml0
  have hown : s.vm.findClass oS0 = some m.cls := findClass_of_methodNamed Bd.named
  have hnm := (name_of_methodNamed Bd.named Bd.method).1
  have X0 : Stand p l e ({ frames := 5, cells := 1, slots := 1, locals := 64 } : Room) s m #[(.ref am)] below meth c s₁ [] 0 0 := Stand.of_body Bd
  have e0 : s₁.heap = h0 := by rw [← hh, Bd.state]; rfl
  have N0 := Fr.nil n0
  refine own_fin (st' := s₁.setTop (mkF m 0 #[oR am] [])) (fun _ k => castTop (ef_rm30 m am) k) (fun P hP => ?_)
  have lt_am : @LT.lt Nat _ am h0.size := pr1.lt
  refine own_go (st' := s₁.setTop (mkF m 1 #[oR am] [(.ref am)])) (fun _ k => XS.aloadN X0.here hx rfl (hb hby d30_0) rfl rfl k) ?_
  obtain ⟨cq1, kq1, q1a, q1b, q1c⟩ := isOf hZ e0 pr1
  obtain ⟨_, _, ⟨T1, LC1, kC1, nC1⟩, -, X1, ⟨Lc1, hQ1, lq1, yq1, zq1⟩, st1⟩ := X0.virtualBack hx (y := oM23) (z := oM23) hown (mvT hZ (own_hw hw 220)) (mvT hZ (own_hw hw 221)) (notFace_of_selects (args := #[]) (mvT hZ (own_hw hw 223))) (mvT hZ (own_hw hw 223)) (mvT hZ (own_hw hw 222)) (by decide) (backOf (W := 0) (rm31 l Z a0 hw [] am cmp ar h0 n0 (by omega) pr1 pr2 pr3 pr4 pr5 pr6 pr7 (by omega)) hZ (own_hw hw 224) (own_hw hw 17) (by decide) (by decide)) q1a q1c (g := (mkF m 1 #[oR am] [(.ref am)])) rfl (by rw [hml]; rfl) (Steps.refl _) (argsL := []) (rest := []) (lenOf pd_20 rfl) rfl (by show 2 * 0 + _ ≤ _; exact Nat.le_of_eq rfl) (hb hby d30_1) (fun _ _ => ⟨rfl, e0, (by decide : 0 + 1 ≤ _), (by decide : 0 + 1 ≤ _)⟩)
  dsimp only [Pt.U, Pt.locs, Pt.cells, Pt.slots] at X1 lq1 yq1 zq1 st1 hQ1
  subst lq1 yq1 zq1
  obtain ⟨h1, e1⟩ : ∃ z, T1.heap = z := ⟨_, rfl⟩
  rw [e1] at hQ1
  obtain ⟨ks_1, rfl, Nq1, K1, g1_0, g1_1, g1_2, g1_3, g1_4, g1_5, g1_6, g1_7, g1_8, g1_9⟩ := hQ1
  have sz1 : h0.size ≤ h1.size := K1.1
  have N1 := Fr.app N0 Nq1
  have lt1_1 : @LT.lt Nat _ am h1.size := g1_0.lt
  have lt1_2 : @LT.lt Nat _ ks_1 h1.size := g1_7.lt
  refine own_go (st' := T1.setTop (mkF m 4 #[oR am] [(.ref ks_1)])) (fun _ k => st1.trans k) ?_
  obtain ⟨fs, hr, hrun, hended, hW, hsame⟩ := X1.leave (v := some (.ref ks_1)) (fun h => by rw [Bd.returns] at h; cases h)
  refine ⟨_, _, ?_, hP _ _ hrun hended ⟨_, _, rfl, ?_, ⟨_, rfl⟩, hW, hsame.mono (by decide) (by decide)⟩⟩
  · exact retOut X1 hx Bd.returns rfl (Or.inr (Or.inr (Or.inr (Or.inr ⟨rfl, rfl, rfl⟩)))) (hb hby d30_4) hr
  · show Qrm30 Z am cmp ar h0 n0 _ T1.heap _
    rw [e1]
    exact ⟨ks_1, rfl, N1, ((Keep.refl h0 [am]).trans K1 (allS (P := fun x => x ∈ [am] ∨ h0.size ≤ x) (Or.inl (List.mem_of_getElem? (i := 0) rfl)) all0)), g1_0, g1_1, g1_2, g1_3, g1_4, g1_5, g1_6, g1_7, g1_8, (by omega)⟩
theorem d37_0 : decode jdk_2729_method_72_code 0 = .ok (.aload_n 0, 1) := by decide +kernel
theorem d37_1 : decode jdk_2729_method_72_code 1 = .ok (.getfield 101, 3) := by decide +kernel
theorem d37_4 : decode jdk_2729_method_72_code 4 = .ok (.astore_n 1, 1) := by decide +kernel
theorem d37_5 : decode jdk_2729_method_72_code 5 = .ok (.aload_n 1, 1) := by decide +kernel
theorem d37_6 : decode jdk_2729_method_72_code 6 = .ok (.ifnull 18, 3) := by decide +kernel
theorem d37_9 : decode jdk_2729_method_72_code 9 = .ok (.aload_n 1, 1) := by decide +kernel
theorem d37_10 : decode jdk_2729_method_72_code 10 = .ok (.getfield 111, 3) := by decide +kernel
theorem d37_13 : decode jdk_2729_method_72_code 13 = .ok (.ifnull 11, 3) := by decide +kernel
theorem d37_24 : decode jdk_2729_method_72_code 24 = .ok (.aload_n 1, 1) := by decide +kernel
theorem d37_25 : decode jdk_2729_method_72_code 25 = .ok (.areturn, 1) := by decide +kernel
theorem pn_37 : plainName "java/util/TreeMap" = true := by first | (simp [plainName, overriddenIn]; done) | decide +kernel
theorem ef_rm37 (m : MethodId) (x0 : Addr) : entryFrame m #[(.ref x0)] 2 = mkF m 0 #[.val (.ref x0), .unset] [] := by first | (simp [entryFrame, mkF, argsToLocals, Value.category]; done) | rfl
def Qrm37 (Z : State) (am : Addr) (ar : Addr) (h0 : Heap) (n0 : Nat) (v : Option Value) (h : Heap) (L : List Loc) : Prop := (v = some (.ref ar)) ∧ (Fr n0 L) ∧ (h = h0)
set_option maxRecDepth 65536 in
set_option maxHeartbeats 40000000 in
theorem rm37 (l : Launch) (Z : State) (a0 : Array Value) (hw : ∀ d ∈ tables_1, d.before a0 Z = true) (ws : List Jvm.Cond) (am : Addr) (ar : Addr) (h0 : Heap) (n0 : Nat) (Z0 : n0 ≤ h0.size) (pr1 : Fld Z h0 am oS0 "root" oS2 (.ref ar)) (pr2 : Fld Z h0 ar oS1 "left" oS2 .null) :
    MetFree l oM7 (head1 (Jvm.Cond.code oM7 jdk_2729_method_72_code 2 (some (.object oS1)) :: ws) ({ frames := 0, cells := 0, slots := 0, locals := 0 } : Room)) (fun a U => a = #[(.ref am)] ∧ Z.Warmed39 U.vm ∧ U.heap = h0) (fun _ _ _ _ _ => True) (fun _ U o U' => ∃ v L, o = .returned v ∧ Qrm37 Z am ar h0 n0 v U'.heap L ∧ FrameEnd U o U' L ({ frames := 0, cells := 0, slots := 0, locals := 0 } : Room).cells ({ frames := 0, cells := 0, slots := 0, locals := 0 } : Room).slots) := by
  refine MetFree.of_bodySF (plainFor_of_name pn_37) hisR ?_
  intro p e s m args below meth c s₁ Bd hml0 hP0 hK
  obtain ⟨rfl, hZ, hh⟩ := hP0
  have hx := Bd.exec
  have hby := Bd.bytes
  have hml : c.maxLocals = 2 := hml0
  have hown : s.vm.findClass oS0 = some m.cls := findClass_of_methodNamed Bd.named
  have hnm := (name_of_methodNamed Bd.named Bd.method).1
  have X0 : Stand p l e ({ frames := 0, cells := 0, slots := 0, locals := 0 } : Room) s m #[(.ref am)] below meth c s₁ [] 0 0 := Stand.of_body Bd
  have e0 : s₁.heap = h0 := by rw [← hh, Bd.state]; rfl
  have N0 := Fr.nil n0
  refine own_fin (st' := s₁.setTop (mkF m 0 #[oR am, .unset] [])) (fun _ k => castTop (ef_rm37 m am) k) (fun P hP => ?_)
  have lt_am : @LT.lt Nat _ am h0.size := pr1.lt
  have lt_ar : @LT.lt Nat _ ar h0.size := pr2.lt
  refine own_go (st' := s₁.setTop (mkF m 1 #[oR am, .unset] [(.ref am)])) (fun _ k => XS.aloadN X0.here hx rfl (hb hby d37_0) rfl rfl k) ?_
  obtain ⟨T1, X1, e1, st1⟩ := getF X0 hx hZ hown (host := "") (Or.inl (own_hw hw 85)) Via.refl e0 pr1 (g := (mkF m 1 #[oR am, .unset] [(.ref am)])) rfl rfl (hb hby d37_1)
  refine own_go (st' := T1.setTop (mkF m 4 #[oR am, .unset] [(.ref ar)])) (st1) ?_
  refine own_go (st' := T1.setTop (mkF m 5 #[oR am, oR ar] [])) (fun _ k => XS.astoreN X1.here hx rfl (hb hby d37_4) rfl rfl (l' := #[oR am, oR ar]) rfl k) ?_
  refine own_go (st' := T1.setTop (mkF m 6 #[oR am, oR ar] [(.ref ar)])) (fun _ k => XS.aloadN X1.here hx rfl (hb hby d37_5) rfl rfl k) ?_
  refine own_go (st' := T1.setTop (mkF m 9 #[oR am, oR ar] [])) (fun _ k => XS.ifnullNo X1.here hx rfl (hb hby d37_6) rfl k) ?_
  refine own_go (st' := T1.setTop (mkF m 10 #[oR am, oR ar] [(.ref ar)])) (fun _ k => XS.aloadN X1.here hx rfl (hb hby d37_9) rfl rfl k) ?_
  obtain ⟨T2, X2, e2, st2⟩ := getF X1 hx hZ hown (host := "") (Or.inl (own_hw hw 273)) Via.refl e1 pr2 (g := (mkF m 10 #[oR am, oR ar] [(.ref ar)])) rfl rfl (hb hby d37_10)
  refine own_go (st' := T2.setTop (mkF m 13 #[oR am, oR ar] [.null])) (st2) ?_
  refine own_go (st' := T2.setTop (mkF m 24 #[oR am, oR ar] [])) (fun _ k => XS.ifnullYes X2.here hx rfl (pc0 := 13) (pc' := 24) rfl (hb hby d37_13) rfl (by decide) (by decide) k) ?_
  refine own_go (st' := T2.setTop (mkF m 25 #[oR am, oR ar] [(.ref ar)])) (fun _ k => XS.aloadN X2.here hx rfl (hb hby d37_24) rfl rfl k) ?_
  obtain ⟨fs, hr, hrun, hended, hW, hsame⟩ := X2.leave (v := some (.ref ar)) (fun h => by rw [Bd.returns] at h; cases h)
  refine ⟨_, _, ?_, hP _ _ hrun hended ⟨_, _, rfl, ?_, ⟨_, rfl⟩, hW, hsame.mono (by decide) (by decide)⟩⟩
  · exact retOut X2 hx Bd.returns rfl (Or.inr (Or.inr (Or.inr (Or.inr ⟨rfl, rfl, rfl⟩)))) (hb hby d37_25) hr
  · show Qrm37 Z am ar h0 n0 _ T2.heap _
    rw [e2]
    exact ⟨rfl, N0, rfl⟩
theorem d39_0 : decode jdk_2750_method_1_code 0 = .ok (.aload_n 0, 1) := by decide +kernel
theorem d39_1 : decode jdk_2750_method_1_code 1 = .ok (.aload_n 1, 1) := by decide +kernel
theorem d39_2 : decode jdk_2750_method_1_code 2 = .ok (.putfield 1, 3) := by decide +kernel
theorem d39_5 : decode jdk_2750_method_1_code 5 = .ok (.aload_n 0, 1) := by decide +kernel
theorem d39_6 : decode jdk_2750_method_1_code 6 = .ok (.invokespecial 7, 3) := by decide +kernel
theorem d39_9 : decode jdk_2750_method_1_code 9 = .ok (.aload_n 0, 1) := by decide +kernel
theorem d39_10 : decode jdk_2750_method_1_code 10 = .ok (.aload_n 1, 1) := by decide +kernel
theorem d39_11 : decode jdk_2750_method_1_code 11 = .ok (.getfield 13, 3) := by decide +kernel
theorem d39_14 : decode jdk_2750_method_1_code 14 = .ok (.putfield 19, 3) := by decide +kernel
theorem d39_17 : decode jdk_2750_method_1_code 17 = .ok (.aload_n 0, 1) := by decide +kernel
theorem d39_18 : decode jdk_2750_method_1_code 18 = .ok (.aconst_null, 1) := by decide +kernel
theorem d39_19 : decode jdk_2750_method_1_code 19 = .ok (.putfield 22, 3) := by decide +kernel
theorem d39_22 : decode jdk_2750_method_1_code 22 = .ok (.aload_n 0, 1) := by decide +kernel
theorem d39_23 : decode jdk_2750_method_1_code 23 = .ok (.aload_n 2, 1) := by decide +kernel
theorem d39_24 : decode jdk_2750_method_1_code 24 = .ok (.putfield 26, 3) := by decide +kernel
theorem d39_27 : decode jdk_2750_method_1_code 27 = .ok (.return_, 1) := by decide +kernel
theorem pn_39 : plainName "java/util/TreeMap$PrivateEntryIterator" = true := by first | (simp [plainName, overriddenIn]; done) | decide +kernel
theorem ef_rpi_38 (m : MethodId) (x0 : Addr) (x1 : Addr) (x2 : Addr) : entryFrame m #[(.ref x0), (.ref x1), (.ref x2)] 3 = mkF m 0 #[.val (.ref x0), .val (.ref x1), .val (.ref x2)] [] := by first | (simp [entryFrame, mkF, argsToLocals, Value.category]; done) | rfl
def Qrpi_38 (Z : State) (a1 : Addr) (am : Addr) (ar : Addr) (h0 : Heap) (n0 : Nat) (v : Option Value) (h : Heap) (L : List Loc) : Prop := (v = none) ∧ (Fr n0 L) ∧ (Keep h0 h [a1]) ∧ (Exa Z h a1 "java/util/TreeMap$KeyIterator") ∧ (Fld Z h a1 "java/util/TreeMap$PrivateEntryIterator" "this$0" "Ljava/util/TreeMap;" (.ref am)) ∧ (Fld Z h a1 "java/util/TreeMap$PrivateEntryIterator" "expectedModCount" "I" (.int (1 : Int32))) ∧ (Fld Z h a1 "java/util/TreeMap$PrivateEntryIterator" "lastReturned" "Ljava/util/TreeMap$Entry;" .null) ∧ (Fld Z h a1 "java/util/TreeMap$PrivateEntryIterator" "next" "Ljava/util/TreeMap$Entry;" (.ref ar))
set_option maxRecDepth 65536 in
set_option maxHeartbeats 40000000 in
theorem rpi_38 (l : Launch) (Z : State) (a0 : Array Value) (hw : ∀ d ∈ tables_1, d.before a0 Z = true) (ws : List Jvm.Cond) (a1 : Addr) (am : Addr) (ar : Addr) (h0 : Heap) (n0 : Nat) (Z0 : n0 ≤ h0.size) (pr1 : Exa Z h0 a1 oS26) (pr2 : Fld Z h0 a1 oS4 "this$0" oS17 .null) (pr3 : Fld Z h0 a1 oS4 oS20 "I" (.int (0 : Int32))) (pr4 : Fld Z h0 a1 oS4 oS18 oS2 .null) (pr5 : Fld Z h0 a1 oS4 "next" oS2 .null) (pr6 : Fld Z h0 am oS0 "modCount" "I" (.int (1 : Int32))) (pr7 : n0 ≤ a1) (pr8 : own_D a1 am) :
    MetFree l oM8 (head1 (Jvm.Cond.code oM8 jdk_2750_method_1_code 3 none :: ws) ({ frames := 1, cells := 0, slots := 0, locals := 12 } : Room)) (fun a U => a = #[(.ref a1), (.ref am), (.ref ar)] ∧ Z.Warmed39 U.vm ∧ U.heap = h0) (fun _ _ _ _ _ => True) (fun _ U o U' => ∃ v L, o = .returned v ∧ Qrpi_38 Z a1 am ar h0 n0 v U'.heap L ∧ FrameEnd U o U' L ({ frames := 1, cells := 0, slots := 0, locals := 12 } : Room).cells ({ frames := 1, cells := 0, slots := 0, locals := 12 } : Room).slots) := by
  refine MetFree.of_bodySF (plainFor_of_name pn_39) hisR ?_
  intro p e s m args below meth c s₁ Bd hml0 hP0 hK
  obtain ⟨rfl, hZ, hh⟩ := hP0
  have hx := Bd.exec
  have hby := Bd.bytes
  have hml : c.maxLocals = 3 := hml0
  have hown : s.vm.findClass oS4 = some m.cls := findClass_of_methodNamed Bd.named
  have hnm := (name_of_methodNamed Bd.named Bd.method).1
  have X0 : Stand p l e ({ frames := 1, cells := 0, slots := 0, locals := 12 } : Room) s m #[(.ref a1), (.ref am), (.ref ar)] below meth c s₁ [] 0 0 := Stand.of_body Bd
  have e0 : s₁.heap = h0 := by rw [← hh, Bd.state]; rfl
  have N0 := Fr.nil n0
  refine own_fin (st' := s₁.setTop (mkF m 0 #[oR a1, oR am, oR ar] [])) (fun _ k => castTop (ef_rpi_38 m a1 am ar) k) (fun P hP => ?_)
  have lt_a1 : @LT.lt Nat _ a1 h0.size := pr1.lt
  have lt_am : @LT.lt Nat _ am h0.size := pr6.lt
  refine own_go (st' := s₁.setTop (mkF m 1 #[oR a1, oR am, oR ar] [(.ref a1)])) (fun _ k => XS.aloadN X0.here hx rfl (hb hby d39_0) rfl rfl k) ?_
  refine own_go (st' := s₁.setTop (mkF m 2 #[oR a1, oR am, oR ar] [(.ref am), (.ref a1)])) (fun _ k => XS.aloadN X0.here hx rfl (hb hby d39_1) rfl rfl k) ?_
  obtain ⟨T1, h1, X1, e1, W1, st1⟩ := putF X0 hx hZ hown (host := "") (Or.inl (own_hw hw 285)) Via.refl e0 pr2 pr1 (Or.inr ⟨(own_hw hw 286), rfl, hnm⟩) (own_hw hw 266) (ty := (.object oS0)) (by decide) rfl rfl (g := (mkF m 2 #[oR a1, oR am, oR ar] [(.ref am), (.ref a1)])) rfl rfl (hb hby d39_2)
  have sz1 : h1.size = h0.size := W1.size
  have N1 := Fr.snoc X1 N0 (by omega)
  have f1 : Fld Z h1 a1 oS4 "this$0" oS17 (.ref am) := pr2.same W1
  refine own_go (st' := T1.setTop (mkF m 5 #[oR a1, oR am, oR ar] [])) (st1) ?_
  refine own_go (st' := T1.setTop (mkF m 6 #[oR a1, oR am, oR ar] [(.ref a1)])) (fun _ k => XS.aloadN X1.here hx rfl (hb hby d39_5) rfl rfl k) ?_
  obtain ⟨T2, X2, e2, st2⟩ := initO X1 hx hZ hown (own_hw hw 287) (own_hw hw 13) (own_hw hw 14) e1 (g := (mkF m 6 #[oR a1, oR am, oR ar] [(.ref a1)])) rfl (by rw [hml]; rfl) rfl (hb hby d39_6) (by decide) (W := 0) (by show 2 * 0 + _ ≤ _; exact Nat.le_of_eq rfl) (by decide)
  refine own_go (st' := T2.setTop (mkF m 9 #[oR a1, oR am, oR ar] [])) (st2) ?_
  refine own_go (st' := T2.setTop (mkF m 10 #[oR a1, oR am, oR ar] [(.ref a1)])) (fun _ k => XS.aloadN X2.here hx rfl (hb hby d39_9) rfl rfl k) ?_
  refine own_go (st' := T2.setTop (mkF m 11 #[oR a1, oR am, oR ar] [(.ref am), (.ref a1)])) (fun _ k => XS.aloadN X2.here hx rfl (hb hby d39_10) rfl rfl k) ?_
  have c3 : Fld Z h1 am oS0 "modCount" "I" (.int (1 : Int32)) := (pr6.other W1 (Or.inl own_nq))
  obtain ⟨T4, X4, e4, st4⟩ := own_getR X2 hx hZ hown (own_hw hw 288) e2 c3 (g := (mkF m 11 #[oR a1, oR am, oR ar] [(.ref am), (.ref a1)])) rfl rfl (hb hby d39_11)
  refine own_go (st' := T4.setTop (mkF m 14 #[oR a1, oR am, oR ar] [(.int (1 : Int32)), (.ref a1)])) (st4) ?_
  have c5 : Fld Z h1 a1 oS4 oS20 "I" (.int (0 : Int32)) := (pr3.other W1 (Or.inr (slot_ne (Or.inl (own_hw hw 290)) (Or.inr (own_hw hw 286)) (by decide) (t := .int) (t' := (.object oS0)) (by decide) (by decide))))
  have c6 : Exa Z h1 a1 oS26 := (pr1.wr W1)
  obtain ⟨T7, h7, X7, e7, W7, st7⟩ := putF X4 hx hZ hown (host := "") (Or.inl (own_hw hw 289)) Via.refl e4 c5 c6 (Or.inl (own_hw hw 290)) (own_hw hw 266) (ty := .int) (by decide) rfl rfl (g := (mkF m 14 #[oR a1, oR am, oR ar] [(.int (1 : Int32)), (.ref a1)])) rfl rfl (hb hby d39_14)
  have sz7 : h7.size = h1.size := W7.size
  have N7 := Fr.snoc X7 N1 (by omega)
  have f7 : Fld Z h7 a1 oS4 oS20 "I" (.int (1 : Int32)) := c5.same W7
  refine own_go (st' := T7.setTop (mkF m 17 #[oR a1, oR am, oR ar] [])) (st7) ?_
  refine own_go (st' := T7.setTop (mkF m 18 #[oR a1, oR am, oR ar] [(.ref a1)])) (fun _ k => XS.aloadN X7.here hx rfl (hb hby d39_17) rfl rfl k) ?_
  refine own_go (st' := T7.setTop (mkF m 19 #[oR a1, oR am, oR ar] [.null, (.ref a1)])) (fun _ k => XS.aconstNull X7.here hx rfl (hb hby d39_18) k) ?_
  have c8 : Fld Z h7 a1 oS4 oS18 oS2 .null := ((pr4.other W1 (Or.inr (slot_ne (Or.inl (own_hw hw 292)) (Or.inr (own_hw hw 286)) (by decide) (t := (.object oS1)) (t' := (.object oS0)) (by decide) (by decide)))).other W7 (Or.inr (slot_ne (Or.inl (own_hw hw 292)) (Or.inl (own_hw hw 290)) (by decide) (t := (.object oS1)) (t' := .int) (by decide) (by decide))))
  have c9 : Exa Z h7 a1 oS26 := (c6.wr W7)
  obtain ⟨T10, h10, X10, e10, W10, st10⟩ := putF X7 hx hZ hown (host := "") (Or.inl (own_hw hw 291)) Via.refl e7 c8 c9 (Or.inl (own_hw hw 292)) (own_hw hw 266) (ty := (.object oS1)) (by decide) rfl rfl (g := (mkF m 19 #[oR a1, oR am, oR ar] [.null, (.ref a1)])) rfl rfl (hb hby d39_19)
  have sz10 : h10.size = h7.size := W10.size
  have N10 := Fr.snoc X10 N7 (by omega)
  have f10 : Fld Z h10 a1 oS4 oS18 oS2 .null := c8.same W10
  refine own_go (st' := T10.setTop (mkF m 22 #[oR a1, oR am, oR ar] [])) (st10) ?_
  refine own_go (st' := T10.setTop (mkF m 23 #[oR a1, oR am, oR ar] [(.ref a1)])) (fun _ k => XS.aloadN X10.here hx rfl (hb hby d39_22) rfl rfl k) ?_
  refine own_go (st' := T10.setTop (mkF m 24 #[oR a1, oR am, oR ar] [(.ref ar), (.ref a1)])) (fun _ k => XS.aloadN X10.here hx rfl (hb hby d39_23) rfl rfl k) ?_
  have c11 : Fld Z h10 a1 oS4 "next" oS2 .null := (((pr5.other W1 (Or.inr (slot_ne (Or.inl (own_hw hw 294)) (Or.inr (own_hw hw 286)) (by decide) (t := (.object oS1)) (t' := (.object oS0)) (by decide) (by decide)))).other W7 (Or.inr (slot_ne (Or.inl (own_hw hw 294)) (Or.inl (own_hw hw 290)) (by decide) (t := (.object oS1)) (t' := .int) (by decide) (by decide)))).other W10 (Or.inr (slot_ne (Or.inl (own_hw hw 294)) (Or.inl (own_hw hw 292)) (by decide) (t := (.object oS1)) (t' := (.object oS1)) (by decide) (by decide))))
  have c12 : Exa Z h10 a1 oS26 := (c9.wr W10)
  obtain ⟨T13, h13, X13, e13, W13, st13⟩ := putF X10 hx hZ hown (host := "") (Or.inl (own_hw hw 293)) Via.refl e10 c11 c12 (Or.inl (own_hw hw 294)) (own_hw hw 266) (ty := (.object oS1)) (by decide) rfl rfl (g := (mkF m 24 #[oR a1, oR am, oR ar] [(.ref ar), (.ref a1)])) rfl rfl (hb hby d39_24)
  have sz13 : h13.size = h10.size := W13.size
  have N13 := Fr.snoc X13 N10 (by omega)
  have f13 : Fld Z h13 a1 oS4 "next" oS2 (.ref ar) := c11.same W13
  refine own_go (st' := T13.setTop (mkF m 27 #[oR a1, oR am, oR ar] [])) (st13) ?_
  obtain ⟨fs, hr, hrun, hended, hW, hsame⟩ := X13.leave (v := none) (fun _ => rfl)
  refine ⟨_, _, ?_, hP _ _ hrun hended ⟨_, _, rfl, ?_, ⟨_, rfl⟩, hW, hsame.mono (by decide) (by decide)⟩⟩
  · exact X13.returnOut hx Bd.returns (hb hby d39_27) hr
  · show Qrpi_38 Z a1 am ar h0 n0 _ T13.heap _
    have c15 : Exa Z h13 a1 oS26 := (c12.wr W13)
    have c16 : Fld Z h13 a1 oS4 "this$0" oS17 (.ref am) := (((f1.other W7 (Or.inr (slot_ne (Or.inr (own_hw hw 286)) (Or.inl (own_hw hw 290)) (by decide) (t := (.object oS0)) (t' := .int) (by decide) (by decide)))).other W10 (Or.inr (slot_ne (Or.inr (own_hw hw 286)) (Or.inl (own_hw hw 292)) (by decide) (t := (.object oS0)) (t' := (.object oS1)) (by decide) (by decide)))).other W13 (Or.inr (slot_ne (Or.inr (own_hw hw 286)) (Or.inl (own_hw hw 294)) (by decide) (t := (.object oS0)) (t' := (.object oS1)) (by decide) (by decide))))
    have c17 : Fld Z h13 a1 oS4 oS20 "I" (.int (1 : Int32)) := ((f7.other W10 (Or.inr (slot_ne (Or.inl (own_hw hw 290)) (Or.inl (own_hw hw 292)) (by decide) (t := .int) (t' := (.object oS1)) (by decide) (by decide)))).other W13 (Or.inr (slot_ne (Or.inl (own_hw hw 290)) (Or.inl (own_hw hw 294)) (by decide) (t := .int) (t' := (.object oS1)) (by decide) (by decide))))
    have c18 : Fld Z h13 a1 oS4 oS18 oS2 .null := (f10.other W13 (Or.inr (slot_ne (Or.inl (own_hw hw 292)) (Or.inl (own_hw hw 294)) (by decide) (t := (.object oS1)) (t' := (.object oS1)) (by decide) (by decide))))
    rw [e13]
    exact ⟨rfl, N13, (((((Keep.refl h0 [a1]).wr W1 (Or.inl (List.mem_of_getElem? (i := 0) rfl))).wr W7 (Or.inl (List.mem_of_getElem? (i := 0) rfl))).wr W10 (Or.inl (List.mem_of_getElem? (i := 0) rfl))).wr W13 (Or.inl (List.mem_of_getElem? (i := 0) rfl))), c15, c16, c17, c18, f13⟩
theorem pd_21 : parseMethodDescriptor "(Ljava/util/TreeMap;Ljava/util/TreeMap$Entry;)V" = some ⟨[(.object "java/util/TreeMap"), (.object "java/util/TreeMap$Entry")], none⟩ := by decide +kernel
theorem d38_0 : decode jdk_2740_method_1_code 0 = .ok (.aload_n 0, 1) := by decide +kernel
theorem d38_1 : decode jdk_2740_method_1_code 1 = .ok (.aload_n 1, 1) := by decide +kernel
theorem d38_2 : decode jdk_2740_method_1_code 2 = .ok (.aload_n 2, 1) := by decide +kernel
theorem d38_3 : decode jdk_2740_method_1_code 3 = .ok (.invokespecial 1, 3) := by decide +kernel
theorem d38_6 : decode jdk_2740_method_1_code 6 = .ok (.return_, 1) := by decide +kernel
theorem pn_38 : plainName "java/util/TreeMap$KeyIterator" = true := by first | (simp [plainName, overriddenIn]; done) | decide +kernel
theorem ef_rm38 (m : MethodId) (x0 : Addr) (x1 : Addr) (x2 : Addr) : entryFrame m #[(.ref x0), (.ref x1), (.ref x2)] 3 = mkF m 0 #[.val (.ref x0), .val (.ref x1), .val (.ref x2)] [] := by first | (simp [entryFrame, mkF, argsToLocals, Value.category]; done) | rfl
def Qrm38 (Z : State) (a1 : Addr) (am : Addr) (ar : Addr) (h0 : Heap) (n0 : Nat) (v : Option Value) (h : Heap) (L : List Loc) : Prop := (v = none) ∧ (Fr n0 L) ∧ (Keep h0 h [a1]) ∧ (Exa Z h a1 "java/util/TreeMap$KeyIterator") ∧ (Fld Z h a1 "java/util/TreeMap$PrivateEntryIterator" "this$0" "Ljava/util/TreeMap;" (.ref am)) ∧ (Fld Z h a1 "java/util/TreeMap$PrivateEntryIterator" "expectedModCount" "I" (.int (1 : Int32))) ∧ (Fld Z h a1 "java/util/TreeMap$PrivateEntryIterator" "lastReturned" "Ljava/util/TreeMap$Entry;" .null) ∧ (Fld Z h a1 "java/util/TreeMap$PrivateEntryIterator" "next" "Ljava/util/TreeMap$Entry;" (.ref ar))
set_option maxRecDepth 65536 in
set_option maxHeartbeats 40000000 in
theorem rm38 (l : Launch) (Z : State) (a0 : Array Value) (hw : ∀ d ∈ tables_1, d.before a0 Z = true) (ws : List Jvm.Cond) (a1 : Addr) (am : Addr) (ar : Addr) (h0 : Heap) (n0 : Nat) (Z0 : n0 ≤ h0.size) (pr1 : Exa Z h0 a1 oS26) (pr2 : Fld Z h0 a1 oS4 "this$0" oS17 .null) (pr3 : Fld Z h0 a1 oS4 oS20 "I" (.int (0 : Int32))) (pr4 : Fld Z h0 a1 oS4 oS18 oS2 .null) (pr5 : Fld Z h0 a1 oS4 "next" oS2 .null) (pr6 : Fld Z h0 am oS0 "modCount" "I" (.int (1 : Int32))) (pr7 : n0 ≤ a1) (pr8 : own_D a1 am) :
    MetFree l oM61 (head1 (Jvm.Cond.code oM61 jdk_2740_method_1_code 3 none :: ws) ({ frames := 2, cells := 0, slots := 0, locals := 26 } : Room)) (fun a U => a = #[(.ref a1), (.ref am), (.ref ar)] ∧ Z.Warmed39 U.vm ∧ U.heap = h0) (fun _ _ _ _ _ => True) (fun _ U o U' => ∃ v L, o = .returned v ∧ Qrm38 Z a1 am ar h0 n0 v U'.heap L ∧ FrameEnd U o U' L ({ frames := 2, cells := 0, slots := 0, locals := 26 } : Room).cells ({ frames := 2, cells := 0, slots := 0, locals := 26 } : Room).slots) := by
  refine MetFree.of_bodySF (plainFor_of_name pn_38) hisR ?_
  intro p e s m args below meth c s₁ Bd hml0 hP0 hK
  obtain ⟨rfl, hZ, hh⟩ := hP0
  have hx := Bd.exec
  have hby := Bd.bytes
  have hml : c.maxLocals = 3 := hml0
  have hown : s.vm.findClass oS26 = some m.cls := findClass_of_methodNamed Bd.named
  have hnm := (name_of_methodNamed Bd.named Bd.method).1
  have X0 : Stand p l e ({ frames := 2, cells := 0, slots := 0, locals := 26 } : Room) s m #[(.ref a1), (.ref am), (.ref ar)] below meth c s₁ [] 0 0 := Stand.of_body Bd
  have e0 : s₁.heap = h0 := by rw [← hh, Bd.state]; rfl
  have N0 := Fr.nil n0
  refine own_fin (st' := s₁.setTop (mkF m 0 #[oR a1, oR am, oR ar] [])) (fun _ k => castTop (ef_rm38 m a1 am ar) k) (fun P hP => ?_)
  have lt_a1 : @LT.lt Nat _ a1 h0.size := pr1.lt
  have lt_am : @LT.lt Nat _ am h0.size := pr6.lt
  refine own_go (st' := s₁.setTop (mkF m 1 #[oR a1, oR am, oR ar] [(.ref a1)])) (fun _ k => XS.aloadN X0.here hx rfl (hb hby d38_0) rfl rfl k) ?_
  refine own_go (st' := s₁.setTop (mkF m 2 #[oR a1, oR am, oR ar] [(.ref am), (.ref a1)])) (fun _ k => XS.aloadN X0.here hx rfl (hb hby d38_1) rfl rfl k) ?_
  refine own_go (st' := s₁.setTop (mkF m 3 #[oR a1, oR am, oR ar] [(.ref ar), (.ref am), (.ref a1)])) (fun _ k => XS.aloadN X0.here hx rfl (hb hby d38_2) rfl rfl k) ?_
  obtain ⟨_, _, ⟨T1, LC1, kC1, nC1⟩, -, X1, ⟨Lc1, hQ1, lq1, yq1, zq1⟩, st1⟩ := X0.specialBack hx (y := oM8) rfl hown (mvT hZ (own_hw hw 279)) (mvT hZ (own_hw hw 280)) (mvT hZ (own_hw hw 284)) (by decide) (backOf (W := 0) (rpi_38 l Z a0 hw [] a1 am ar h0 n0 (by omega) pr1 pr2 pr3 pr4 pr5 pr6 (by omega) own_nr) hZ (own_hw hw 284) (own_hw hw 283) (by decide) (by decide)) (g := (mkF m 3 #[oR a1, oR am, oR ar] [(.ref ar), (.ref am), (.ref a1)])) rfl (by rw [hml]; rfl) (Steps.refl _) (a := a1) (argsL := [(.ref am), (.ref ar)]) (rest := []) (lenOf pd_21 rfl) rfl (by show 2 * 0 + _ ≤ _; exact Nat.le_of_eq rfl) (hb hby d38_3) (fun _ _ => ⟨rfl, e0, (by decide : 0 + 0 ≤ _), (by decide : 0 + 0 ≤ _)⟩)
  dsimp only [Pt.U, Pt.locs, Pt.cells, Pt.slots] at X1 lq1 yq1 zq1 st1 hQ1
  subst lq1 yq1 zq1
  obtain ⟨h1, e1⟩ : ∃ z, T1.heap = z := ⟨_, rfl⟩
  rw [e1] at hQ1
  obtain ⟨rfl, Nq1, K1, g1_0, g1_1, g1_2, g1_3, g1_4⟩ := hQ1
  have sz1 : h0.size ≤ h1.size := K1.1
  have N1 := Fr.app N0 Nq1
  have lt1_1 : @LT.lt Nat _ a1 h1.size := g1_0.lt
  refine own_go (st' := T1.setTop (mkF m 6 #[oR a1, oR am, oR ar] [])) (fun _ k => st1.trans k) ?_
  obtain ⟨fs, hr, hrun, hended, hW, hsame⟩ := X1.leave (v := none) (fun _ => rfl)
  refine ⟨_, _, ?_, hP _ _ hrun hended ⟨_, _, rfl, ?_, ⟨_, rfl⟩, hW, hsame.mono (by decide) (by decide)⟩⟩
  · exact X1.returnOut hx Bd.returns (hb hby d38_6) hr
  · show Qrm38 Z a1 am ar h0 n0 _ T1.heap _
    rw [e1]
    exact ⟨rfl, N1, ((Keep.refl h0 [a1]).trans K1 (allS (P := fun x => x ∈ [a1] ∨ h0.size ≤ x) (Or.inl (List.mem_of_getElem? (i := 0) rfl)) all0)), g1_0, g1_1, g1_2, g1_3, g1_4⟩
theorem ef_rpi_46 (m : MethodId) (x0 : Addr) (x1 : Addr) (x2 : Addr) : entryFrame m #[(.ref x0), (.ref x1), (.ref x2)] 3 = mkF m 0 #[.val (.ref x0), .val (.ref x1), .val (.ref x2)] [] := by first | (simp [entryFrame, mkF, argsToLocals, Value.category]; done) | rfl
def Qrpi_46 (Z : State) (a1 : Addr) (am : Addr) (ar : Addr) (h0 : Heap) (n0 : Nat) (v : Option Value) (h : Heap) (L : List Loc) : Prop := (v = none) ∧ (Fr n0 L) ∧ (Keep h0 h [a1]) ∧ (Exa Z h a1 "java/util/TreeMap$EntryIterator") ∧ (Fld Z h a1 "java/util/TreeMap$PrivateEntryIterator" "this$0" "Ljava/util/TreeMap;" (.ref am)) ∧ (Fld Z h a1 "java/util/TreeMap$PrivateEntryIterator" "expectedModCount" "I" (.int (1 : Int32))) ∧ (Fld Z h a1 "java/util/TreeMap$PrivateEntryIterator" "lastReturned" "Ljava/util/TreeMap$Entry;" .null) ∧ (Fld Z h a1 "java/util/TreeMap$PrivateEntryIterator" "next" "Ljava/util/TreeMap$Entry;" (.ref ar))
set_option maxRecDepth 65536 in
set_option maxHeartbeats 40000000 in
theorem rpi_46 (l : Launch) (Z : State) (a0 : Array Value) (hw : ∀ d ∈ tables_1, d.before a0 Z = true) (ws : List Jvm.Cond) (a1 : Addr) (am : Addr) (ar : Addr) (h0 : Heap) (n0 : Nat) (Z0 : n0 ≤ h0.size) (pr1 : Exa Z h0 a1 oS22) (pr2 : Fld Z h0 a1 oS4 "this$0" oS17 .null) (pr3 : Fld Z h0 a1 oS4 oS20 "I" (.int (0 : Int32))) (pr4 : Fld Z h0 a1 oS4 oS18 oS2 .null) (pr5 : Fld Z h0 a1 oS4 "next" oS2 .null) (pr6 : Fld Z h0 am oS0 "modCount" "I" (.int (1 : Int32))) (pr7 : n0 ≤ a1) (pr8 : own_D a1 am) :
    MetFree l oM8 (head1 (Jvm.Cond.code oM8 jdk_2750_method_1_code 3 none :: ws) ({ frames := 1, cells := 0, slots := 0, locals := 12 } : Room)) (fun a U => a = #[(.ref a1), (.ref am), (.ref ar)] ∧ Z.Warmed39 U.vm ∧ U.heap = h0) (fun _ _ _ _ _ => True) (fun _ U o U' => ∃ v L, o = .returned v ∧ Qrpi_46 Z a1 am ar h0 n0 v U'.heap L ∧ FrameEnd U o U' L ({ frames := 1, cells := 0, slots := 0, locals := 12 } : Room).cells ({ frames := 1, cells := 0, slots := 0, locals := 12 } : Room).slots) := by
  refine MetFree.of_bodySF (plainFor_of_name pn_39) hisR ?_
  intro p e s m args below meth c s₁ Bd hml0 hP0 hK
  obtain ⟨rfl, hZ, hh⟩ := hP0
  have hx := Bd.exec
  have hby := Bd.bytes
  have hml : c.maxLocals = 3 := hml0
  have hown : s.vm.findClass oS4 = some m.cls := findClass_of_methodNamed Bd.named
  have hnm := (name_of_methodNamed Bd.named Bd.method).1
  have X0 : Stand p l e ({ frames := 1, cells := 0, slots := 0, locals := 12 } : Room) s m #[(.ref a1), (.ref am), (.ref ar)] below meth c s₁ [] 0 0 := Stand.of_body Bd
  have e0 : s₁.heap = h0 := by rw [← hh, Bd.state]; rfl
  have N0 := Fr.nil n0
  refine own_fin (st' := s₁.setTop (mkF m 0 #[oR a1, oR am, oR ar] [])) (fun _ k => castTop (ef_rpi_46 m a1 am ar) k) (fun P hP => ?_)
  have lt_a1 : @LT.lt Nat _ a1 h0.size := pr1.lt
  have lt_am : @LT.lt Nat _ am h0.size := pr6.lt
  refine own_go (st' := s₁.setTop (mkF m 1 #[oR a1, oR am, oR ar] [(.ref a1)])) (fun _ k => XS.aloadN X0.here hx rfl (hb hby d39_0) rfl rfl k) ?_
  refine own_go (st' := s₁.setTop (mkF m 2 #[oR a1, oR am, oR ar] [(.ref am), (.ref a1)])) (fun _ k => XS.aloadN X0.here hx rfl (hb hby d39_1) rfl rfl k) ?_
  obtain ⟨T1, h1, X1, e1, W1, st1⟩ := putF X0 hx hZ hown (host := "") (Or.inl (own_hw hw 285)) Via.refl e0 pr2 pr1 (Or.inr ⟨(own_hw hw 362), rfl, hnm⟩) (own_hw hw 353) (ty := (.object oS0)) (by decide) rfl rfl (g := (mkF m 2 #[oR a1, oR am, oR ar] [(.ref am), (.ref a1)])) rfl rfl (hb hby d39_2)
  have sz1 : h1.size = h0.size := W1.size
  have N1 := Fr.snoc X1 N0 (by omega)
  have f1 : Fld Z h1 a1 oS4 "this$0" oS17 (.ref am) := pr2.same W1
  refine own_go (st' := T1.setTop (mkF m 5 #[oR a1, oR am, oR ar] [])) (st1) ?_
  refine own_go (st' := T1.setTop (mkF m 6 #[oR a1, oR am, oR ar] [(.ref a1)])) (fun _ k => XS.aloadN X1.here hx rfl (hb hby d39_5) rfl rfl k) ?_
  obtain ⟨T2, X2, e2, st2⟩ := initO X1 hx hZ hown (own_hw hw 287) (own_hw hw 13) (own_hw hw 14) e1 (g := (mkF m 6 #[oR a1, oR am, oR ar] [(.ref a1)])) rfl (by rw [hml]; rfl) rfl (hb hby d39_6) (by decide) (W := 0) (by show 2 * 0 + _ ≤ _; exact Nat.le_of_eq rfl) (by decide)
  refine own_go (st' := T2.setTop (mkF m 9 #[oR a1, oR am, oR ar] [])) (st2) ?_
  refine own_go (st' := T2.setTop (mkF m 10 #[oR a1, oR am, oR ar] [(.ref a1)])) (fun _ k => XS.aloadN X2.here hx rfl (hb hby d39_9) rfl rfl k) ?_
  refine own_go (st' := T2.setTop (mkF m 11 #[oR a1, oR am, oR ar] [(.ref am), (.ref a1)])) (fun _ k => XS.aloadN X2.here hx rfl (hb hby d39_10) rfl rfl k) ?_
  have c3 : Fld Z h1 am oS0 "modCount" "I" (.int (1 : Int32)) := (pr6.other W1 (Or.inl own_nq))
  obtain ⟨T4, X4, e4, st4⟩ := own_getR X2 hx hZ hown (own_hw hw 288) e2 c3 (g := (mkF m 11 #[oR a1, oR am, oR ar] [(.ref am), (.ref a1)])) rfl rfl (hb hby d39_11)
  refine own_go (st' := T4.setTop (mkF m 14 #[oR a1, oR am, oR ar] [(.int (1 : Int32)), (.ref a1)])) (st4) ?_
  have c5 : Fld Z h1 a1 oS4 oS20 "I" (.int (0 : Int32)) := (pr3.other W1 (Or.inr (slot_ne (Or.inl (own_hw hw 363)) (Or.inr (own_hw hw 362)) (by decide) (t := .int) (t' := (.object oS0)) (by decide) (by decide))))
  have c6 : Exa Z h1 a1 oS22 := (pr1.wr W1)
  obtain ⟨T7, h7, X7, e7, W7, st7⟩ := putF X4 hx hZ hown (host := "") (Or.inl (own_hw hw 289)) Via.refl e4 c5 c6 (Or.inl (own_hw hw 363)) (own_hw hw 353) (ty := .int) (by decide) rfl rfl (g := (mkF m 14 #[oR a1, oR am, oR ar] [(.int (1 : Int32)), (.ref a1)])) rfl rfl (hb hby d39_14)
  have sz7 : h7.size = h1.size := W7.size
  have N7 := Fr.snoc X7 N1 (by omega)
  have f7 : Fld Z h7 a1 oS4 oS20 "I" (.int (1 : Int32)) := c5.same W7
  refine own_go (st' := T7.setTop (mkF m 17 #[oR a1, oR am, oR ar] [])) (st7) ?_
  refine own_go (st' := T7.setTop (mkF m 18 #[oR a1, oR am, oR ar] [(.ref a1)])) (fun _ k => XS.aloadN X7.here hx rfl (hb hby d39_17) rfl rfl k) ?_
  refine own_go (st' := T7.setTop (mkF m 19 #[oR a1, oR am, oR ar] [.null, (.ref a1)])) (fun _ k => XS.aconstNull X7.here hx rfl (hb hby d39_18) k) ?_
  have c8 : Fld Z h7 a1 oS4 oS18 oS2 .null := ((pr4.other W1 (Or.inr (slot_ne (Or.inl (own_hw hw 364)) (Or.inr (own_hw hw 362)) (by decide) (t := (.object oS1)) (t' := (.object oS0)) (by decide) (by decide)))).other W7 (Or.inr (slot_ne (Or.inl (own_hw hw 364)) (Or.inl (own_hw hw 363)) (by decide) (t := (.object oS1)) (t' := .int) (by decide) (by decide))))
  have c9 : Exa Z h7 a1 oS22 := (c6.wr W7)
  obtain ⟨T10, h10, X10, e10, W10, st10⟩ := putF X7 hx hZ hown (host := "") (Or.inl (own_hw hw 291)) Via.refl e7 c8 c9 (Or.inl (own_hw hw 364)) (own_hw hw 353) (ty := (.object oS1)) (by decide) rfl rfl (g := (mkF m 19 #[oR a1, oR am, oR ar] [.null, (.ref a1)])) rfl rfl (hb hby d39_19)
  have sz10 : h10.size = h7.size := W10.size
  have N10 := Fr.snoc X10 N7 (by omega)
  have f10 : Fld Z h10 a1 oS4 oS18 oS2 .null := c8.same W10
  refine own_go (st' := T10.setTop (mkF m 22 #[oR a1, oR am, oR ar] [])) (st10) ?_
  refine own_go (st' := T10.setTop (mkF m 23 #[oR a1, oR am, oR ar] [(.ref a1)])) (fun _ k => XS.aloadN X10.here hx rfl (hb hby d39_22) rfl rfl k) ?_
  refine own_go (st' := T10.setTop (mkF m 24 #[oR a1, oR am, oR ar] [(.ref ar), (.ref a1)])) (fun _ k => XS.aloadN X10.here hx rfl (hb hby d39_23) rfl rfl k) ?_
  have c11 : Fld Z h10 a1 oS4 "next" oS2 .null := (((pr5.other W1 (Or.inr (slot_ne (Or.inl (own_hw hw 365)) (Or.inr (own_hw hw 362)) (by decide) (t := (.object oS1)) (t' := (.object oS0)) (by decide) (by decide)))).other W7 (Or.inr (slot_ne (Or.inl (own_hw hw 365)) (Or.inl (own_hw hw 363)) (by decide) (t := (.object oS1)) (t' := .int) (by decide) (by decide)))).other W10 (Or.inr (slot_ne (Or.inl (own_hw hw 365)) (Or.inl (own_hw hw 364)) (by decide) (t := (.object oS1)) (t' := (.object oS1)) (by decide) (by decide))))
  have c12 : Exa Z h10 a1 oS22 := (c9.wr W10)
  obtain ⟨T13, h13, X13, e13, W13, st13⟩ := putF X10 hx hZ hown (host := "") (Or.inl (own_hw hw 293)) Via.refl e10 c11 c12 (Or.inl (own_hw hw 365)) (own_hw hw 353) (ty := (.object oS1)) (by decide) rfl rfl (g := (mkF m 24 #[oR a1, oR am, oR ar] [(.ref ar), (.ref a1)])) rfl rfl (hb hby d39_24)
  have sz13 : h13.size = h10.size := W13.size
  have N13 := Fr.snoc X13 N10 (by omega)
  have f13 : Fld Z h13 a1 oS4 "next" oS2 (.ref ar) := c11.same W13
  refine own_go (st' := T13.setTop (mkF m 27 #[oR a1, oR am, oR ar] [])) (st13) ?_
  obtain ⟨fs, hr, hrun, hended, hW, hsame⟩ := X13.leave (v := none) (fun _ => rfl)
  refine ⟨_, _, ?_, hP _ _ hrun hended ⟨_, _, rfl, ?_, ⟨_, rfl⟩, hW, hsame.mono (by decide) (by decide)⟩⟩
  · exact X13.returnOut hx Bd.returns (hb hby d39_27) hr
  · show Qrpi_46 Z a1 am ar h0 n0 _ T13.heap _
    have c15 : Exa Z h13 a1 oS22 := (c12.wr W13)
    have c16 : Fld Z h13 a1 oS4 "this$0" oS17 (.ref am) := (((f1.other W7 (Or.inr (slot_ne (Or.inr (own_hw hw 362)) (Or.inl (own_hw hw 363)) (by decide) (t := (.object oS0)) (t' := .int) (by decide) (by decide)))).other W10 (Or.inr (slot_ne (Or.inr (own_hw hw 362)) (Or.inl (own_hw hw 364)) (by decide) (t := (.object oS0)) (t' := (.object oS1)) (by decide) (by decide)))).other W13 (Or.inr (slot_ne (Or.inr (own_hw hw 362)) (Or.inl (own_hw hw 365)) (by decide) (t := (.object oS0)) (t' := (.object oS1)) (by decide) (by decide))))
    have c17 : Fld Z h13 a1 oS4 oS20 "I" (.int (1 : Int32)) := ((f7.other W10 (Or.inr (slot_ne (Or.inl (own_hw hw 363)) (Or.inl (own_hw hw 364)) (by decide) (t := .int) (t' := (.object oS1)) (by decide) (by decide)))).other W13 (Or.inr (slot_ne (Or.inl (own_hw hw 363)) (Or.inl (own_hw hw 365)) (by decide) (t := .int) (t' := (.object oS1)) (by decide) (by decide))))
    have c18 : Fld Z h13 a1 oS4 oS18 oS2 .null := (f10.other W13 (Or.inr (slot_ne (Or.inl (own_hw hw 364)) (Or.inl (own_hw hw 365)) (by decide) (t := (.object oS1)) (t' := (.object oS1)) (by decide) (by decide))))
    rw [e13]
    exact ⟨rfl, N13, (((((Keep.refl h0 [a1]).wr W1 (Or.inl (List.mem_of_getElem? (i := 0) rfl))).wr W7 (Or.inl (List.mem_of_getElem? (i := 0) rfl))).wr W10 (Or.inl (List.mem_of_getElem? (i := 0) rfl))).wr W13 (Or.inl (List.mem_of_getElem? (i := 0) rfl))), c15, c16, c17, c18, f13⟩
theorem d46_0 : decode jdk_2737_method_1_code 0 = .ok (.aload_n 0, 1) := by decide +kernel
theorem d46_1 : decode jdk_2737_method_1_code 1 = .ok (.aload_n 1, 1) := by decide +kernel
theorem d46_2 : decode jdk_2737_method_1_code 2 = .ok (.aload_n 2, 1) := by decide +kernel
theorem d46_3 : decode jdk_2737_method_1_code 3 = .ok (.invokespecial 1, 3) := by decide +kernel
theorem d46_6 : decode jdk_2737_method_1_code 6 = .ok (.return_, 1) := by decide +kernel
theorem pn_46 : plainName "java/util/TreeMap$EntryIterator" = true := by first | (simp [plainName, overriddenIn]; done) | decide +kernel
theorem ef_rm46 (m : MethodId) (x0 : Addr) (x1 : Addr) (x2 : Addr) : entryFrame m #[(.ref x0), (.ref x1), (.ref x2)] 3 = mkF m 0 #[.val (.ref x0), .val (.ref x1), .val (.ref x2)] [] := by first | (simp [entryFrame, mkF, argsToLocals, Value.category]; done) | rfl
def Qrm46 (Z : State) (a1 : Addr) (am : Addr) (ar : Addr) (h0 : Heap) (n0 : Nat) (v : Option Value) (h : Heap) (L : List Loc) : Prop := (v = none) ∧ (Fr n0 L) ∧ (Keep h0 h [a1]) ∧ (Exa Z h a1 "java/util/TreeMap$EntryIterator") ∧ (Fld Z h a1 "java/util/TreeMap$PrivateEntryIterator" "this$0" "Ljava/util/TreeMap;" (.ref am)) ∧ (Fld Z h a1 "java/util/TreeMap$PrivateEntryIterator" "expectedModCount" "I" (.int (1 : Int32))) ∧ (Fld Z h a1 "java/util/TreeMap$PrivateEntryIterator" "lastReturned" "Ljava/util/TreeMap$Entry;" .null) ∧ (Fld Z h a1 "java/util/TreeMap$PrivateEntryIterator" "next" "Ljava/util/TreeMap$Entry;" (.ref ar))
set_option maxRecDepth 65536 in
set_option maxHeartbeats 40000000 in
theorem rm46 (l : Launch) (Z : State) (a0 : Array Value) (hw : ∀ d ∈ tables_1, d.before a0 Z = true) (ws : List Jvm.Cond) (a1 : Addr) (am : Addr) (ar : Addr) (h0 : Heap) (n0 : Nat) (Z0 : n0 ≤ h0.size) (pr1 : Exa Z h0 a1 oS22) (pr2 : Fld Z h0 a1 oS4 "this$0" oS17 .null) (pr3 : Fld Z h0 a1 oS4 oS20 "I" (.int (0 : Int32))) (pr4 : Fld Z h0 a1 oS4 oS18 oS2 .null) (pr5 : Fld Z h0 a1 oS4 "next" oS2 .null) (pr6 : Fld Z h0 am oS0 "modCount" "I" (.int (1 : Int32))) (pr7 : n0 ≤ a1) (pr8 : own_D a1 am) :
    MetFree l oM62 (head1 (Jvm.Cond.code oM62 jdk_2737_method_1_code 3 none :: ws) ({ frames := 2, cells := 0, slots := 0, locals := 26 } : Room)) (fun a U => a = #[(.ref a1), (.ref am), (.ref ar)] ∧ Z.Warmed39 U.vm ∧ U.heap = h0) (fun _ _ _ _ _ => True) (fun _ U o U' => ∃ v L, o = .returned v ∧ Qrm46 Z a1 am ar h0 n0 v U'.heap L ∧ FrameEnd U o U' L ({ frames := 2, cells := 0, slots := 0, locals := 26 } : Room).cells ({ frames := 2, cells := 0, slots := 0, locals := 26 } : Room).slots) := by
  refine MetFree.of_bodySF (plainFor_of_name pn_46) hisR ?_
  intro p e s m args below meth c s₁ Bd hml0 hP0 hK
  obtain ⟨rfl, hZ, hh⟩ := hP0
  have hx := Bd.exec
  have hby := Bd.bytes
  have hml : c.maxLocals = 3 := hml0
  have hown : s.vm.findClass oS22 = some m.cls := findClass_of_methodNamed Bd.named
  have hnm := (name_of_methodNamed Bd.named Bd.method).1
  have X0 : Stand p l e ({ frames := 2, cells := 0, slots := 0, locals := 26 } : Room) s m #[(.ref a1), (.ref am), (.ref ar)] below meth c s₁ [] 0 0 := Stand.of_body Bd
  have e0 : s₁.heap = h0 := by rw [← hh, Bd.state]; rfl
  have N0 := Fr.nil n0
  refine own_fin (st' := s₁.setTop (mkF m 0 #[oR a1, oR am, oR ar] [])) (fun _ k => castTop (ef_rm46 m a1 am ar) k) (fun P hP => ?_)
  have lt_a1 : @LT.lt Nat _ a1 h0.size := pr1.lt
  have lt_am : @LT.lt Nat _ am h0.size := pr6.lt
  refine own_go (st' := s₁.setTop (mkF m 1 #[oR a1, oR am, oR ar] [(.ref a1)])) (fun _ k => XS.aloadN X0.here hx rfl (hb hby d46_0) rfl rfl k) ?_
  refine own_go (st' := s₁.setTop (mkF m 2 #[oR a1, oR am, oR ar] [(.ref am), (.ref a1)])) (fun _ k => XS.aloadN X0.here hx rfl (hb hby d46_1) rfl rfl k) ?_
  refine own_go (st' := s₁.setTop (mkF m 3 #[oR a1, oR am, oR ar] [(.ref ar), (.ref am), (.ref a1)])) (fun _ k => XS.aloadN X0.here hx rfl (hb hby d46_2) rfl rfl k) ?_
  obtain ⟨_, _, ⟨T1, LC1, kC1, nC1⟩, -, X1, ⟨Lc1, hQ1, lq1, yq1, zq1⟩, st1⟩ := X0.specialBack hx (y := oM8) rfl hown (mvT hZ (own_hw hw 360)) (mvT hZ (own_hw hw 280)) (mvT hZ (own_hw hw 284)) (by decide) (backOf (W := 0) (rpi_46 l Z a0 hw [] a1 am ar h0 n0 (by omega) pr1 pr2 pr3 pr4 pr5 pr6 (by omega) own_nr) hZ (own_hw hw 284) (own_hw hw 283) (by decide) (by decide)) (g := (mkF m 3 #[oR a1, oR am, oR ar] [(.ref ar), (.ref am), (.ref a1)])) rfl (by rw [hml]; rfl) (Steps.refl _) (a := a1) (argsL := [(.ref am), (.ref ar)]) (rest := []) (lenOf pd_21 rfl) rfl (by show 2 * 0 + _ ≤ _; exact Nat.le_of_eq rfl) (hb hby d46_3) (fun _ _ => ⟨rfl, e0, (by decide : 0 + 0 ≤ _), (by decide : 0 + 0 ≤ _)⟩)
  dsimp only [Pt.U, Pt.locs, Pt.cells, Pt.slots] at X1 lq1 yq1 zq1 st1 hQ1
  subst lq1 yq1 zq1
  obtain ⟨h1, e1⟩ : ∃ z, T1.heap = z := ⟨_, rfl⟩
  rw [e1] at hQ1
  obtain ⟨rfl, Nq1, K1, g1_0, g1_1, g1_2, g1_3, g1_4⟩ := hQ1
  have sz1 : h0.size ≤ h1.size := K1.1
  have N1 := Fr.app N0 Nq1
  have lt1_1 : @LT.lt Nat _ a1 h1.size := g1_0.lt
  refine own_go (st' := T1.setTop (mkF m 6 #[oR a1, oR am, oR ar] [])) (fun _ k => st1.trans k) ?_
  obtain ⟨fs, hr, hrun, hended, hW, hsame⟩ := X1.leave (v := none) (fun _ => rfl)
  refine ⟨_, _, ?_, hP _ _ hrun hended ⟨_, _, rfl, ?_, ⟨_, rfl⟩, hW, hsame.mono (by decide) (by decide)⟩⟩
  · exact X1.returnOut hx Bd.returns (hb hby d46_6) hr
  · show Qrm46 Z a1 am ar h0 n0 _ T1.heap _
    rw [e1]
    exact ⟨rfl, N1, ((Keep.refl h0 [a1]).trans K1 (allS (P := fun x => x ∈ [a1] ∨ h0.size ≤ x) (Or.inl (List.mem_of_getElem? (i := 0) rfl)) all0)), g1_0, g1_1, g1_2, g1_3, g1_4⟩
theorem pd_22 : parseMethodDescriptor "()Ljava/util/TreeMap$Entry;" = some ⟨[], some (.object "java/util/TreeMap$Entry")⟩ := by decide +kernel
theorem d36_0 : decode jdk_2729_method_65_code 0 = .ok (.new 269, 3) := by decide +kernel
theorem d36_3 : decode jdk_2729_method_65_code 3 = .ok (.dup, 1) := by decide +kernel
theorem d36_4 : decode jdk_2729_method_65_code 4 = .ok (.aload_n 0, 1) := by decide +kernel
theorem d36_5 : decode jdk_2729_method_65_code 5 = .ok (.aload_n 0, 1) := by decide +kernel
theorem d36_6 : decode jdk_2729_method_65_code 6 = .ok (.invokevirtual 54, 3) := by decide +kernel
theorem d36_9 : decode jdk_2729_method_65_code 9 = .ok (.invokespecial 271, 3) := by decide +kernel
theorem d36_12 : decode jdk_2729_method_65_code 12 = .ok (.areturn, 1) := by decide +kernel
theorem pn_36 : plainName "java/util/TreeMap" = true := by first | (simp [plainName, overriddenIn]; done) | decide +kernel
theorem ef_rm36 (m : MethodId) (x0 : Addr) : entryFrame m #[(.ref x0)] 1 = mkF m 0 #[.val (.ref x0)] [] := by first | (simp [entryFrame, mkF, argsToLocals, Value.category]; done) | rfl
def Qrm36 (Z : State) (am : Addr) (ar : Addr) (h0 : Heap) (n0 : Nat) (v : Option Value) (h : Heap) (L : List Loc) : Prop := ∃ (it : Addr), (v = some (.ref it)) ∧ (Fr n0 L) ∧ (Keep h0 h []) ∧ (Exa Z h it "java/util/TreeMap$KeyIterator") ∧ (Fld Z h it "java/util/TreeMap$PrivateEntryIterator" "this$0" "Ljava/util/TreeMap;" (.ref am)) ∧ (Fld Z h it "java/util/TreeMap$PrivateEntryIterator" "expectedModCount" "I" (.int (1 : Int32))) ∧ (Fld Z h it "java/util/TreeMap$PrivateEntryIterator" "lastReturned" "Ljava/util/TreeMap$Entry;" .null) ∧ (Fld Z h it "java/util/TreeMap$PrivateEntryIterator" "next" "Ljava/util/TreeMap$Entry;" (.ref ar)) ∧ (h0.size ≤ it)
set_option maxRecDepth 65536 in
set_option maxHeartbeats 40000000 in
theorem rm36 (l : Launch) (Z : State) (a0 : Array Value) (hw : ∀ d ∈ tables_1, d.before a0 Z = true) (ws : List Jvm.Cond) (am : Addr) (ar : Addr) (h0 : Heap) (n0 : Nat) (Z0 : n0 ≤ h0.size) (pr1 : Exa Z h0 am oS0) (pr2 : Fld Z h0 am oS0 "modCount" "I" (.int (1 : Int32))) (pr3 : Fld Z h0 am oS0 "root" oS2 (.ref ar)) (pr4 : Fld Z h0 ar oS1 "left" oS2 .null) :
    MetFree l oM25 (head1 (Jvm.Cond.code oM25 jdk_2729_method_65_code 1 (some (.object "java/util/Iterator")) :: ws) ({ frames := 3, cells := 1, slots := 4, locals := 41 } : Room)) (fun a U => a = #[(.ref am)] ∧ Z.Warmed39 U.vm ∧ U.heap = h0) (fun _ _ _ _ _ => True) (fun _ U o U' => ∃ v L, o = .returned v ∧ Qrm36 Z am ar h0 n0 v U'.heap L ∧ FrameEnd U o U' L ({ frames := 3, cells := 1, slots := 4, locals := 41 } : Room).cells ({ frames := 3, cells := 1, slots := 4, locals := 41 } : Room).slots) := by
  refine MetFree.of_bodySF (plainFor_of_name pn_36) hisR ?_
  intro p e s m args below meth c s₁ Bd hml0 hP0 hK
  obtain ⟨rfl, hZ, hh⟩ := hP0
  have hx := Bd.exec
  have hby := Bd.bytes
  have hml : c.maxLocals = 1 := hml0
  have hown : s.vm.findClass oS0 = some m.cls := findClass_of_methodNamed Bd.named
  have hnm := (name_of_methodNamed Bd.named Bd.method).1
  have X0 : Stand p l e ({ frames := 3, cells := 1, slots := 4, locals := 41 } : Room) s m #[(.ref am)] below meth c s₁ [] 0 0 := Stand.of_body Bd
  have e0 : s₁.heap = h0 := by rw [← hh, Bd.state]; rfl
  have N0 := Fr.nil n0
  refine own_fin (st' := s₁.setTop (mkF m 0 #[oR am] [])) (fun _ k => castTop (ef_rm36 m am) k) (fun P hP => ?_)
  have lt_am : @LT.lt Nat _ am h0.size := pr1.lt
  have lt_ar : @LT.lt Nat _ ar h0.size := pr4.lt
  obtain ⟨T1, h1, X1, e1, E1, A1, D1, -, st1⟩ := newO X0 hx hZ hown (own_hw hw 265) (own_hw hw 266) (own_hw hw 267) e0 (g := (mkF m 0 #[oR am] [])) rfl (hb hby d36_0) (by decide) (by decide)
  obtain ⟨b1, g1⟩ : ∃ z, z = h0.size := ⟨_, rfl⟩
  rw [← g1] at A1 D1 st1
  have sz1 : h0.size ≤ h1.size := E1.1
  have lt1 : @LT.lt Nat _ b1 h1.size := A1.lt
  have f2 : Fld Z h1 b1 oS4 "this$0" oS17 .null := D1 (Or.inr (own_hw hw 286)) (ty := (.object oS0)) (by decide)
  have f3 : Fld Z h1 b1 oS4 oS20 "I" (.int (0 : Int32)) := D1 (Or.inl (own_hw hw 290)) (ty := .int) (by decide)
  have f4 : Fld Z h1 b1 oS4 oS18 oS2 .null := D1 (Or.inl (own_hw hw 292)) (ty := (.object oS1)) (by decide)
  have f5 : Fld Z h1 b1 oS4 "next" oS2 .null := D1 (Or.inl (own_hw hw 294)) (ty := (.object oS1)) (by decide)
  refine own_go (st' := T1.setTop (mkF m 3 #[oR am] [(.ref b1)])) (st1) ?_
  refine own_go (st' := T1.setTop (mkF m 4 #[oR am] [(.ref b1), (.ref b1)])) (fun _ k => XS.dup X1.here hx rfl (hb hby d36_3) rfl rfl k) ?_
  refine own_go (st' := T1.setTop (mkF m 5 #[oR am] [(.ref am), (.ref b1), (.ref b1)])) (fun _ k => XS.aloadN X1.here hx rfl (hb hby d36_4) rfl rfl k) ?_
  refine own_go (st' := T1.setTop (mkF m 6 #[oR am] [(.ref am), (.ref am), (.ref b1), (.ref b1)])) (fun _ k => XS.aloadN X1.here hx rfl (hb hby d36_5) rfl rfl k) ?_
  have c7 : Fld Z h1 am oS0 "root" oS2 (.ref ar) := (pr3.ext E1)
  have c8 : Fld Z h1 ar oS1 "left" oS2 .null := (pr4.ext E1)
  have c9 : Exa Z h1 am oS0 := (pr1.ext E1)
  obtain ⟨cq6, kq6, q6a, q6b, q6c⟩ := isOf hZ e1 c9
  obtain ⟨_, _, ⟨T6, LC6, kC6, nC6⟩, -, X6, ⟨Lc6, hQ6, lq6, yq6, zq6⟩, st6⟩ := X1.virtualBack hx (y := oM7) (z := oM7) hown (mvT hZ (own_hw hw 268)) (mvT hZ (own_hw hw 269)) (notFace_of_selects (args := #[]) (mvT hZ (own_hw hw 271))) (mvT hZ (own_hw hw 271)) (mvT hZ (own_hw hw 270)) (by decide) (backOf (W := 3) (rm37 l Z a0 hw [] am ar h1 n0 (by omega) c7 c8) hZ (own_hw hw 272) (own_hw hw 17) (by decide) (by decide)) q6a q6c (g := (mkF m 6 #[oR am] [(.ref am), (.ref am), (.ref b1), (.ref b1)])) rfl (by rw [hml]; rfl) (Steps.refl _) (argsL := []) (rest := [(.ref am), (.ref b1), (.ref b1)]) (lenOf pd_22 rfl) rfl (by show 2 * 0 + _ ≤ _; exact Nat.le_of_eq rfl) (hb hby d36_6) (fun _ _ => ⟨rfl, e1, (by decide : 1 + 0 ≤ _), (by decide : 4 + 0 ≤ _)⟩)
  dsimp only [Pt.U, Pt.locs, Pt.cells, Pt.slots] at X6 lq6 yq6 zq6 st6 hQ6
  subst lq6 yq6 zq6
  obtain ⟨rfl, Nq6, eq6⟩ := hQ6
  have N6 := Fr.app N0 Nq6
  refine own_go (st' := T6.setTop (mkF m 9 #[oR am] [(.ref ar), (.ref am), (.ref b1), (.ref b1)])) (fun _ k => st6.trans k) ?_
  have c11 : Fld Z h1 am oS0 "modCount" "I" (.int (1 : Int32)) := (pr2.ext E1)
  obtain ⟨_, _, ⟨T10, LC10, kC10, nC10⟩, -, X10, ⟨Lc10, hQ10, lq10, yq10, zq10⟩, st10⟩ := X6.specialBack hx (y := oM61) rfl hown (mvT hZ (own_hw hw 275)) (mvT hZ (own_hw hw 276)) (mvT hZ (own_hw hw 278)) (by decide) (backOf (W := 1) (rm38 l Z a0 hw [] b1 am ar h1 n0 (by omega) A1 f2 f3 f4 f5 c11 (by omega) own_nr) hZ (own_hw hw 278) (own_hw hw 267) (by decide) (by decide)) (g := (mkF m 9 #[oR am] [(.ref ar), (.ref am), (.ref b1), (.ref b1)])) rfl (by rw [hml]; rfl) (Steps.refl _) (a := b1) (argsL := [(.ref am), (.ref ar)]) (rest := [(.ref b1)]) (lenOf pd_21 rfl) rfl (by show 2 * 0 + _ ≤ _; exact Nat.le_of_eq rfl) (hb hby d36_9) (fun _ _ => ⟨rfl, eq6, (by decide : 1 + 0 ≤ _), (by decide : 4 + 0 ≤ _)⟩)
  dsimp only [Pt.U, Pt.locs, Pt.cells, Pt.slots] at X10 lq10 yq10 zq10 st10 hQ10
  subst lq10 yq10 zq10
  obtain ⟨h10, e10⟩ : ∃ z, T10.heap = z := ⟨_, rfl⟩
  rw [e10] at hQ10
  obtain ⟨rfl, Nq10, K10, g10_0, g10_1, g10_2, g10_3, g10_4⟩ := hQ10
  have sz10 : h1.size ≤ h10.size := K10.1
  have N10 := Fr.app N6 Nq10
  have lt10_1 : @LT.lt Nat _ b1 h10.size := g10_0.lt
  refine own_go (st' := T10.setTop (mkF m 12 #[oR am] [(.ref b1)])) (fun _ k => st10.trans k) ?_
  obtain ⟨fs, hr, hrun, hended, hW, hsame⟩ := X10.leave (v := some (.ref b1)) (fun h => by rw [Bd.returns] at h; cases h)
  refine ⟨_, _, ?_, hP _ _ hrun hended ⟨_, _, rfl, ?_, ⟨_, rfl⟩, hW, hsame.mono (by decide) (by decide)⟩⟩
  · exact retOut X10 hx Bd.returns rfl (Or.inr (Or.inr (Or.inr (Or.inr ⟨rfl, rfl, rfl⟩)))) (hb hby d36_12) hr
  · show Qrm36 Z am ar h0 n0 _ T10.heap _
    rw [e10]
    exact ⟨b1, rfl, N10, (((Keep.refl h0 []).ext E1).trans K10 (allS (P := fun x => x ∈ [] ∨ h0.size ≤ x) (Or.inr (by omega)) all0)), g10_0, g10_1, g10_2, g10_3, g10_4, (by omega)⟩
theorem pd_23 : parseMethodDescriptor "()Ljava/util/Iterator;" = some ⟨[], some (.object "java/util/Iterator")⟩ := by decide +kernel
theorem d35_0 : decode jdk_2741_method_2_code 0 = .ok (.aload_n 0, 1) := by decide +kernel
theorem d35_1 : decode jdk_2741_method_2_code 1 = .ok (.getfield 7, 3) := by decide +kernel
theorem d35_4 : decode jdk_2741_method_2_code 4 = .ok (.instanceof 13, 3) := by decide +kernel
theorem d35_7 : decode jdk_2741_method_2_code 7 = .ok (.ifCond .eq 14, 3) := by decide +kernel
theorem d35_10 : decode jdk_2741_method_2_code 10 = .ok (.aload_n 0, 1) := by decide +kernel
theorem d35_11 : decode jdk_2741_method_2_code 11 = .ok (.getfield 7, 3) := by decide +kernel
theorem d35_14 : decode jdk_2741_method_2_code 14 = .ok (.checkcast 13, 3) := by decide +kernel
theorem d35_17 : decode jdk_2741_method_2_code 17 = .ok (.invokevirtual 15, 3) := by decide +kernel
theorem d35_20 : decode jdk_2741_method_2_code 20 = .ok (.areturn, 1) := by decide +kernel
theorem pn_35 : plainName "java/util/TreeMap$KeySet" = true := by first | (simp [plainName, overriddenIn]; done) | decide +kernel
theorem ef_rm35 (m : MethodId) (x0 : Addr) : entryFrame m #[(.ref x0)] 1 = mkF m 0 #[.val (.ref x0)] [] := by first | (simp [entryFrame, mkF, argsToLocals, Value.category]; done) | rfl
def Qrm35 (Z : State) (ks : Addr) (am : Addr) (ar : Addr) (h0 : Heap) (n0 : Nat) (v : Option Value) (h : Heap) (L : List Loc) : Prop := ∃ (it : Addr), (v = some (.ref it)) ∧ (Fr n0 L) ∧ (Keep h0 h []) ∧ (Exa Z h it "java/util/TreeMap$KeyIterator") ∧ (Fld Z h it "java/util/TreeMap$PrivateEntryIterator" "this$0" "Ljava/util/TreeMap;" (.ref am)) ∧ (Fld Z h it "java/util/TreeMap$PrivateEntryIterator" "expectedModCount" "I" (.int (1 : Int32))) ∧ (Fld Z h it "java/util/TreeMap$PrivateEntryIterator" "lastReturned" "Ljava/util/TreeMap$Entry;" .null) ∧ (Fld Z h it "java/util/TreeMap$PrivateEntryIterator" "next" "Ljava/util/TreeMap$Entry;" (.ref ar)) ∧ (h0.size ≤ it)
set_option maxRecDepth 65536 in
set_option maxHeartbeats 40000000 in
theorem rm35 (l : Launch) (Z : State) (a0 : Array Value) (hw : ∀ d ∈ tables_1, d.before a0 Z = true) (ws : List Jvm.Cond) (ks : Addr) (am : Addr) (ar : Addr) (h0 : Heap) (n0 : Nat) (Z0 : n0 ≤ h0.size) (pr1 : Exa Z h0 ks oS15) (pr2 : Fld Z h0 ks oS15 "m" oS30 (.ref am)) (pr3 : Exa Z h0 am oS0) (pr4 : Fld Z h0 am oS0 "modCount" "I" (.int (1 : Int32))) (pr5 : Fld Z h0 am oS0 "root" oS2 (.ref ar)) (pr6 : Fld Z h0 ar oS1 "left" oS2 .null) :
    MetFree l oM26 (head1 (Jvm.Cond.code oM26 jdk_2741_method_2_code 1 (some (.object "java/util/Iterator")) :: ws) ({ frames := 4, cells := 1, slots := 4, locals := 53 } : Room)) (fun a U => a = #[(.ref ks)] ∧ Z.Warmed39 U.vm ∧ U.heap = h0) (fun _ _ _ _ _ => True) (fun _ U o U' => ∃ v L, o = .returned v ∧ Qrm35 Z ks am ar h0 n0 v U'.heap L ∧ FrameEnd U o U' L ({ frames := 4, cells := 1, slots := 4, locals := 53 } : Room).cells ({ frames := 4, cells := 1, slots := 4, locals := 53 } : Room).slots) := by
  refine MetFree.of_bodySF (plainFor_of_name pn_35) hisR ?_
  intro p e s m args below meth c s₁ Bd hml0 hP0 hK
  obtain ⟨rfl, hZ, hh⟩ := hP0
  have hx := Bd.exec
  have hby := Bd.bytes
  have hml : c.maxLocals = 1 := hml0
  have hown : s.vm.findClass oS15 = some m.cls := findClass_of_methodNamed Bd.named
  have hnm := (name_of_methodNamed Bd.named Bd.method).1
  have X0 : Stand p l e ({ frames := 4, cells := 1, slots := 4, locals := 53 } : Room) s m #[(.ref ks)] below meth c s₁ [] 0 0 := Stand.of_body Bd
  have e0 : s₁.heap = h0 := by rw [← hh, Bd.state]; rfl
  have N0 := Fr.nil n0
  refine own_fin (st' := s₁.setTop (mkF m 0 #[oR ks] [])) (fun _ k => castTop (ef_rm35 m ks) k) (fun P hP => ?_)
  have lt_ks : @LT.lt Nat _ ks h0.size := pr1.lt
  have lt_am : @LT.lt Nat _ am h0.size := pr3.lt
  have lt_ar : @LT.lt Nat _ ar h0.size := pr6.lt
  refine own_go (st' := s₁.setTop (mkF m 1 #[oR ks] [(.ref ks)])) (fun _ k => XS.aloadN X0.here hx rfl (hb hby d35_0) rfl rfl k) ?_
  obtain ⟨T1, X1, e1, st1⟩ := getF X0 hx hZ hown (host := "") (Or.inl (own_hw hw 247)) Via.refl e0 pr2 (g := (mkF m 1 #[oR ks] [(.ref ks)])) rfl rfl (hb hby d35_1)
  refine own_go (st' := T1.setTop (mkF m 4 #[oR ks] [(.ref am)])) (st1) ?_
  obtain ⟨T2, X2, e2, st2⟩ := instY X1 hx hZ hown (own_hw hw 258) e1 (Ins.self pr3) (g := (mkF m 4 #[oR ks] [(.ref am)])) rfl rfl (hb hby d35_4)
  refine own_go (st' := T2.setTop (mkF m 7 #[oR ks] [(.int (1 : Int32))])) (st2) ?_
  have hc3 : ¬ ((1 : Int32) = (0 : Int32)) := by decide
  refine own_go (st' := T2.setTop (mkF m 10 #[oR ks] [])) (fun _ k => XS.ifNo X2.here hx rfl (hb hby d35_7) rfl ((if0 _ _).trans (feq hc3).1) k) ?_
  refine own_go (st' := T2.setTop (mkF m 11 #[oR ks] [(.ref ks)])) (fun _ k => XS.aloadN X2.here hx rfl (hb hby d35_10) rfl rfl k) ?_
  obtain ⟨T4, X4, e4, st4⟩ := getF X2 hx hZ hown (host := "") (Or.inl (own_hw hw 247)) Via.refl e2 pr2 (g := (mkF m 11 #[oR ks] [(.ref ks)])) rfl rfl (hb hby d35_11)
  refine own_go (st' := T4.setTop (mkF m 14 #[oR ks] [(.ref am)])) (st4) ?_
  obtain ⟨T5, X5, e5, st5⟩ := castY X4 hx hZ hown (own_hw hw 258) e4 (Ins.self pr3) (g := (mkF m 14 #[oR ks] [(.ref am)])) rfl rfl (hb hby d35_14)
  refine own_go (st' := T5.setTop (mkF m 17 #[oR ks] [(.ref am)])) (st5) ?_
  obtain ⟨cq6, kq6, q6a, q6b, q6c⟩ := isOf hZ e5 pr3
  obtain ⟨_, _, ⟨T6, LC6, kC6, nC6⟩, -, X6, ⟨Lc6, hQ6, lq6, yq6, zq6⟩, st6⟩ := X5.virtualBack hx (y := oM25) (z := oM25) hown (mvT hZ (own_hw hw 260)) (mvT hZ (own_hw hw 261)) (notFace_of_selects (args := #[]) (mvT hZ (own_hw hw 263))) (mvT hZ (own_hw hw 263)) (mvT hZ (own_hw hw 262)) (by decide) (backOf (W := 0) (rm36 l Z a0 hw [] am ar h0 n0 (by omega) pr3 pr4 pr5 pr6) hZ (own_hw hw 264) (own_hw hw 17) (by decide) (by decide)) q6a q6c (g := (mkF m 17 #[oR ks] [(.ref am)])) rfl (by rw [hml]; rfl) (Steps.refl _) (argsL := []) (rest := []) (lenOf pd_23 rfl) rfl (by show 2 * 0 + _ ≤ _; exact Nat.le_of_eq rfl) (hb hby d35_17) (fun _ _ => ⟨rfl, e5, (by decide : 0 + 1 ≤ _), (by decide : 0 + 4 ≤ _)⟩)
  dsimp only [Pt.U, Pt.locs, Pt.cells, Pt.slots] at X6 lq6 yq6 zq6 st6 hQ6
  subst lq6 yq6 zq6
  obtain ⟨h6, e6⟩ : ∃ z, T6.heap = z := ⟨_, rfl⟩
  rw [e6] at hQ6
  obtain ⟨it_6, rfl, Nq6, K6, g6_0, g6_1, g6_2, g6_3, g6_4, g6_5⟩ := hQ6
  have sz6 : h0.size ≤ h6.size := K6.1
  have N6 := Fr.app N0 Nq6
  have lt6_1 : @LT.lt Nat _ it_6 h6.size := g6_0.lt
  refine own_go (st' := T6.setTop (mkF m 20 #[oR ks] [(.ref it_6)])) (fun _ k => st6.trans k) ?_
  obtain ⟨fs, hr, hrun, hended, hW, hsame⟩ := X6.leave (v := some (.ref it_6)) (fun h => by rw [Bd.returns] at h; cases h)
  refine ⟨_, _, ?_, hP _ _ hrun hended ⟨_, _, rfl, ?_, ⟨_, rfl⟩, hW, hsame.mono (by decide) (by decide)⟩⟩
  · exact retOut X6 hx Bd.returns rfl (Or.inr (Or.inr (Or.inr (Or.inr ⟨rfl, rfl, rfl⟩)))) (hb hby d35_20) hr
  · show Qrm35 Z ks am ar h0 n0 _ T6.heap _
    rw [e6]
    exact ⟨it_6, rfl, N6, ((Keep.refl h0 []).trans K6 all0), g6_0, g6_1, g6_2, g6_3, g6_4, (by omega)⟩
theorem d42_0 : decode jdk_2729_method_74_code 0 = .ok (.aload_n 0, 1) := by decide +kernel
theorem d42_1 : decode jdk_2729_method_74_code 1 = .ok (.ifnonnull 5, 3) := by decide +kernel
theorem d42_6 : decode jdk_2729_method_74_code 6 = .ok (.aload_n 0, 1) := by decide +kernel
theorem d42_7 : decode jdk_2729_method_74_code 7 = .ok (.getfield 114, 3) := by decide +kernel
theorem d42_10 : decode jdk_2729_method_74_code 10 = .ok (.ifnull 25, 3) := by decide +kernel
theorem d42_35 : decode jdk_2729_method_74_code 35 = .ok (.aload_n 0, 1) := by decide +kernel
theorem d42_36 : decode jdk_2729_method_74_code 36 = .ok (.getfield 124, 3) := by decide +kernel
theorem d42_39 : decode jdk_2729_method_74_code 39 = .ok (.astore_n 1, 1) := by decide +kernel
theorem d42_40 : decode jdk_2729_method_74_code 40 = .ok (.aload_n 0, 1) := by decide +kernel
theorem d42_41 : decode jdk_2729_method_74_code 41 = .ok (.astore_n 2, 1) := by decide +kernel
theorem d42_42 : decode jdk_2729_method_74_code 42 = .ok (.aload_n 1, 1) := by decide +kernel
theorem d42_43 : decode jdk_2729_method_74_code 43 = .ok (.ifnull 21, 3) := by decide +kernel
theorem d42_64 : decode jdk_2729_method_74_code 64 = .ok (.aload_n 1, 1) := by decide +kernel
theorem d42_65 : decode jdk_2729_method_74_code 65 = .ok (.areturn, 1) := by decide +kernel
theorem pn_42 : plainName "java/util/TreeMap" = true := by first | (simp [plainName, overriddenIn]; done) | decide +kernel
theorem ef_rm42 (m : MethodId) (x0 : Addr) : entryFrame m #[(.ref x0)] 3 = mkF m 0 #[.val (.ref x0), .unset, .unset] [] := by first | (simp [entryFrame, mkF, argsToLocals, Value.category]; done) | rfl
def Qrm42 (Z : State) (ar : Addr) (h0 : Heap) (n0 : Nat) (v : Option Value) (h : Heap) (L : List Loc) : Prop := (v = some .null) ∧ (Fr n0 L) ∧ (h = h0)
set_option maxRecDepth 65536 in
set_option maxHeartbeats 40000000 in
theorem rm42 (l : Launch) (Z : State) (a0 : Array Value) (hw : ∀ d ∈ tables_1, d.before a0 Z = true) (ws : List Jvm.Cond) (ar : Addr) (h0 : Heap) (n0 : Nat) (Z0 : n0 ≤ h0.size) (pr1 : Fld Z h0 ar oS1 "right" oS2 .null) (pr2 : Fld Z h0 ar oS1 "parent" oS2 .null) :
    MetFree l oM27 (head1 (Jvm.Cond.code oM27 jdk_2729_method_74_code 3 (some (.object oS1)) :: ws) ({ frames := 0, cells := 0, slots := 0, locals := 0 } : Room)) (fun a U => a = #[(.ref ar)] ∧ Z.Warmed39 U.vm ∧ U.heap = h0) (fun _ _ _ _ _ => True) (fun _ U o U' => ∃ v L, o = .returned v ∧ Qrm42 Z ar h0 n0 v U'.heap L ∧ FrameEnd U o U' L ({ frames := 0, cells := 0, slots := 0, locals := 0 } : Room).cells ({ frames := 0, cells := 0, slots := 0, locals := 0 } : Room).slots) := by
  refine MetFree.of_bodySF (plainFor_of_name pn_42) hisR ?_
  intro p e s m args below meth c s₁ Bd hml0 hP0 hK
  obtain ⟨rfl, hZ, hh⟩ := hP0
  have hx := Bd.exec
  have hby := Bd.bytes
  have hml : c.maxLocals = 3 := hml0
  have hown : s.vm.findClass oS0 = some m.cls := findClass_of_methodNamed Bd.named
  have hnm := (name_of_methodNamed Bd.named Bd.method).1
  have X0 : Stand p l e ({ frames := 0, cells := 0, slots := 0, locals := 0 } : Room) s m #[(.ref ar)] below meth c s₁ [] 0 0 := Stand.of_body Bd
  have e0 : s₁.heap = h0 := by rw [← hh, Bd.state]; rfl
  have N0 := Fr.nil n0
  refine own_fin (st' := s₁.setTop (mkF m 0 #[oR ar, .unset, .unset] [])) (fun _ k => castTop (ef_rm42 m ar) k) (fun P hP => ?_)
  have lt_ar : @LT.lt Nat _ ar h0.size := pr1.lt
  refine own_go (st' := s₁.setTop (mkF m 1 #[oR ar, .unset, .unset] [(.ref ar)])) (fun _ k => XS.aloadN X0.here hx rfl (hb hby d42_0) rfl rfl k) ?_
  refine own_go (st' := s₁.setTop (mkF m 6 #[oR ar, .unset, .unset] [])) (fun _ k => XS.ifnonnullYes X0.here hx rfl (pc0 := 1) (pc' := 6) rfl (hb hby d42_1) rfl (by decide) (by decide) k) ?_
  refine own_go (st' := s₁.setTop (mkF m 7 #[oR ar, .unset, .unset] [(.ref ar)])) (fun _ k => XS.aloadN X0.here hx rfl (hb hby d42_6) rfl rfl k) ?_
  obtain ⟨T1, X1, e1, st1⟩ := getF X0 hx hZ hown (host := "") (Or.inl (own_hw hw 313)) Via.refl e0 pr1 (g := (mkF m 7 #[oR ar, .unset, .unset] [(.ref ar)])) rfl rfl (hb hby d42_7)
  refine own_go (st' := T1.setTop (mkF m 10 #[oR ar, .unset, .unset] [.null])) (st1) ?_
  refine own_go (st' := T1.setTop (mkF m 35 #[oR ar, .unset, .unset] [])) (fun _ k => XS.ifnullYes X1.here hx rfl (pc0 := 10) (pc' := 35) rfl (hb hby d42_10) rfl (by decide) (by decide) k) ?_
  refine own_go (st' := T1.setTop (mkF m 36 #[oR ar, .unset, .unset] [(.ref ar)])) (fun _ k => XS.aloadN X1.here hx rfl (hb hby d42_35) rfl rfl k) ?_
  obtain ⟨T2, X2, e2, st2⟩ := getF X1 hx hZ hown (host := "") (Or.inl (own_hw hw 315)) Via.refl e1 pr2 (g := (mkF m 36 #[oR ar, .unset, .unset] [(.ref ar)])) rfl rfl (hb hby d42_36)
  refine own_go (st' := T2.setTop (mkF m 39 #[oR ar, .unset, .unset] [.null])) (st2) ?_
  refine own_go (st' := T2.setTop (mkF m 40 #[oR ar, .val .null, .unset] [])) (fun _ k => XS.astoreN X2.here hx rfl (hb hby d42_39) rfl rfl (l' := #[oR ar, .val .null, .unset]) rfl k) ?_
  refine own_go (st' := T2.setTop (mkF m 41 #[oR ar, .val .null, .unset] [(.ref ar)])) (fun _ k => XS.aloadN X2.here hx rfl (hb hby d42_40) rfl rfl k) ?_
  refine own_go (st' := T2.setTop (mkF m 42 #[oR ar, .val .null, oR ar] [])) (fun _ k => XS.astoreN X2.here hx rfl (hb hby d42_41) rfl rfl (l' := #[oR ar, .val .null, oR ar]) rfl k) ?_
  refine own_go (st' := T2.setTop (mkF m 43 #[oR ar, .val .null, oR ar] [.null])) (fun _ k => XS.aloadN X2.here hx rfl (hb hby d42_42) rfl rfl k) ?_
  refine own_go (st' := T2.setTop (mkF m 64 #[oR ar, .val .null, oR ar] [])) (fun _ k => XS.ifnullYes X2.here hx rfl (pc0 := 43) (pc' := 64) rfl (hb hby d42_43) rfl (by decide) (by decide) k) ?_
  refine own_go (st' := T2.setTop (mkF m 65 #[oR ar, .val .null, oR ar] [.null])) (fun _ k => XS.aloadN X2.here hx rfl (hb hby d42_64) rfl rfl k) ?_
  obtain ⟨fs, hr, hrun, hended, hW, hsame⟩ := X2.leave (v := some .null) (fun h => by rw [Bd.returns] at h; cases h)
  refine ⟨_, _, ?_, hP _ _ hrun hended ⟨_, _, rfl, ?_, ⟨_, rfl⟩, hW, hsame.mono (by decide) (by decide)⟩⟩
  · exact retOut X2 hx Bd.returns rfl (Or.inr (Or.inr (Or.inr (Or.inr ⟨rfl, rfl, rfl⟩)))) (hb hby d42_65) hr
  · show Qrm42 Z ar h0 n0 _ T2.heap _
    rw [e2]
    exact ⟨rfl, N0, rfl⟩
theorem pd_24 : parseMethodDescriptor "(Ljava/util/TreeMap$Entry;)Ljava/util/TreeMap$Entry;" = some ⟨[(.object "java/util/TreeMap$Entry")], some (.object "java/util/TreeMap$Entry")⟩ := by decide +kernel
theorem d41_0 : decode jdk_2750_method_3_code 0 = .ok (.aload_n 0, 1) := by decide +kernel
theorem d41_1 : decode jdk_2750_method_3_code 1 = .ok (.getfield 26, 3) := by decide +kernel
theorem d41_4 : decode jdk_2750_method_3_code 4 = .ok (.astore_n 1, 1) := by decide +kernel
theorem d41_5 : decode jdk_2750_method_3_code 5 = .ok (.aload_n 1, 1) := by decide +kernel
theorem d41_6 : decode jdk_2750_method_3_code 6 = .ok (.ifnonnull 11, 3) := by decide +kernel
theorem d41_17 : decode jdk_2750_method_3_code 17 = .ok (.aload_n 0, 1) := by decide +kernel
theorem d41_18 : decode jdk_2750_method_3_code 18 = .ok (.getfield 1, 3) := by decide +kernel
theorem d41_21 : decode jdk_2750_method_3_code 21 = .ok (.getfield 13, 3) := by decide +kernel
theorem d41_24 : decode jdk_2750_method_3_code 24 = .ok (.aload_n 0, 1) := by decide +kernel
theorem d41_25 : decode jdk_2750_method_3_code 25 = .ok (.getfield 19, 3) := by decide +kernel
theorem d41_28 : decode jdk_2750_method_3_code 28 = .ok (.if_icmp .eq 11, 3) := by decide +kernel
theorem d41_39 : decode jdk_2750_method_3_code 39 = .ok (.aload_n 0, 1) := by decide +kernel
theorem d41_40 : decode jdk_2750_method_3_code 40 = .ok (.aload_n 1, 1) := by decide +kernel
theorem d41_41 : decode jdk_2750_method_3_code 41 = .ok (.invokestatic 35, 3) := by decide +kernel
theorem d41_44 : decode jdk_2750_method_3_code 44 = .ok (.putfield 26, 3) := by decide +kernel
theorem d41_47 : decode jdk_2750_method_3_code 47 = .ok (.aload_n 0, 1) := by decide +kernel
theorem d41_48 : decode jdk_2750_method_3_code 48 = .ok (.aload_n 1, 1) := by decide +kernel
theorem d41_49 : decode jdk_2750_method_3_code 49 = .ok (.putfield 22, 3) := by decide +kernel
theorem d41_52 : decode jdk_2750_method_3_code 52 = .ok (.aload_n 1, 1) := by decide +kernel
theorem d41_53 : decode jdk_2750_method_3_code 53 = .ok (.areturn, 1) := by decide +kernel
theorem pn_41 : plainName "java/util/TreeMap$PrivateEntryIterator" = true := by first | (simp [plainName, overriddenIn]; done) | decide +kernel
theorem ef_rne_K (m : MethodId) (x0 : Addr) : entryFrame m #[(.ref x0)] 2 = mkF m 0 #[.val (.ref x0), .unset] [] := by first | (simp [entryFrame, mkF, argsToLocals, Value.category]; done) | rfl
def Qrne_K (Z : State) (it : Addr) (am : Addr) (ar : Addr) (h0 : Heap) (n0 : Nat) (v : Option Value) (h : Heap) (L : List Loc) : Prop := (v = some (.ref ar)) ∧ (Fr n0 L) ∧ (Keep h0 h [it]) ∧ (Exa Z h it "java/util/TreeMap$KeyIterator") ∧ (Fld Z h it "java/util/TreeMap$PrivateEntryIterator" "this$0" "Ljava/util/TreeMap;" (.ref am)) ∧ (Fld Z h it "java/util/TreeMap$PrivateEntryIterator" "expectedModCount" "I" (.int (1 : Int32))) ∧ (Fld Z h it "java/util/TreeMap$PrivateEntryIterator" "lastReturned" "Ljava/util/TreeMap$Entry;" (.ref ar)) ∧ (Fld Z h it "java/util/TreeMap$PrivateEntryIterator" "next" "Ljava/util/TreeMap$Entry;" .null)
set_option maxRecDepth 65536 in
set_option maxHeartbeats 40000000 in
theorem rne_K (l : Launch) (Z : State) (a0 : Array Value) (hw : ∀ d ∈ tables_1, d.before a0 Z = true) (ws : List Jvm.Cond) (it : Addr) (am : Addr) (ar : Addr) (h0 : Heap) (n0 : Nat) (Z0 : n0 ≤ h0.size) (pr1 : Exa Z h0 it oS26) (pr2 : Fld Z h0 it oS4 "this$0" oS17 (.ref am)) (pr3 : Fld Z h0 it oS4 oS20 "I" (.int (1 : Int32))) (pr4 : Fld Z h0 it oS4 oS18 oS2 .null) (pr5 : Fld Z h0 it oS4 "next" oS2 (.ref ar)) (pr6 : Fld Z h0 am oS0 "modCount" "I" (.int (1 : Int32))) (pr7 : Fld Z h0 ar oS1 "right" oS2 .null) (pr8 : Fld Z h0 ar oS1 "parent" oS2 .null) (pr9 : n0 ≤ it) (pr10 : own_D it ar) (pr11 : own_D it am) :
    MetFree l oM9 (head1 (Jvm.Cond.code oM9 jdk_2750_method_3_code 2 (some (.object oS1)) :: ws) ({ frames := 1, cells := 0, slots := 0, locals := 15 } : Room)) (fun a U => a = #[(.ref it)] ∧ Z.Warmed39 U.vm ∧ U.heap = h0) (fun _ _ _ _ _ => True) (fun _ U o U' => ∃ v L, o = .returned v ∧ Qrne_K Z it am ar h0 n0 v U'.heap L ∧ FrameEnd U o U' L ({ frames := 1, cells := 0, slots := 0, locals := 15 } : Room).cells ({ frames := 1, cells := 0, slots := 0, locals := 15 } : Room).slots) := by
  refine MetFree.of_bodySF (plainFor_of_name pn_41) hisR ?_
  intro p e s m args below meth c s₁ Bd hml0 hP0 hK
  obtain ⟨rfl, hZ, hh⟩ := hP0
  have hx := Bd.exec
  have hby := Bd.bytes
  have hml : c.maxLocals = 2 := hml0
  have hown : s.vm.findClass oS4 = some m.cls := findClass_of_methodNamed Bd.named
  have hnm := (name_of_methodNamed Bd.named Bd.method).1
  have X0 : Stand p l e ({ frames := 1, cells := 0, slots := 0, locals := 15 } : Room) s m #[(.ref it)] below meth c s₁ [] 0 0 := Stand.of_body Bd
  have e0 : s₁.heap = h0 := by rw [← hh, Bd.state]; rfl
  have N0 := Fr.nil n0
  refine own_fin (st' := s₁.setTop (mkF m 0 #[oR it, .unset] [])) (fun _ k => castTop (ef_rne_K m it) k) (fun P hP => ?_)
  have lt_it : @LT.lt Nat _ it h0.size := pr1.lt
  have lt_am : @LT.lt Nat _ am h0.size := pr6.lt
  have lt_ar : @LT.lt Nat _ ar h0.size := pr7.lt
  refine own_go (st' := s₁.setTop (mkF m 1 #[oR it, .unset] [(.ref it)])) (fun _ k => XS.aloadN X0.here hx rfl (hb hby d41_0) rfl rfl k) ?_
  obtain ⟨T1, X1, e1, st1⟩ := getF X0 hx hZ hown (host := "") (Or.inl (own_hw hw 293)) Via.refl e0 pr5 (g := (mkF m 1 #[oR it, .unset] [(.ref it)])) rfl rfl (hb hby d41_1)
  refine own_go (st' := T1.setTop (mkF m 4 #[oR it, .unset] [(.ref ar)])) (st1) ?_
  refine own_go (st' := T1.setTop (mkF m 5 #[oR it, oR ar] [])) (fun _ k => XS.astoreN X1.here hx rfl (hb hby d41_4) rfl rfl (l' := #[oR it, oR ar]) rfl k) ?_
  refine own_go (st' := T1.setTop (mkF m 6 #[oR it, oR ar] [(.ref ar)])) (fun _ k => XS.aloadN X1.here hx rfl (hb hby d41_5) rfl rfl k) ?_
  refine own_go (st' := T1.setTop (mkF m 17 #[oR it, oR ar] [])) (fun _ k => XS.ifnonnullYes X1.here hx rfl (pc0 := 6) (pc' := 17) rfl (hb hby d41_6) rfl (by decide) (by decide) k) ?_
  refine own_go (st' := T1.setTop (mkF m 18 #[oR it, oR ar] [(.ref it)])) (fun _ k => XS.aloadN X1.here hx rfl (hb hby d41_17) rfl rfl k) ?_
  obtain ⟨T2, X2, e2, st2⟩ := getF X1 hx hZ hown (host := "") (Or.inl (own_hw hw 285)) Via.refl e1 pr2 (g := (mkF m 18 #[oR it, oR ar] [(.ref it)])) rfl rfl (hb hby d41_18)
  refine own_go (st' := T2.setTop (mkF m 21 #[oR it, oR ar] [(.ref am)])) (st2) ?_
  obtain ⟨T3, X3, e3, st3⟩ := own_getR X2 hx hZ hown (own_hw hw 288) e2 pr6 (g := (mkF m 21 #[oR it, oR ar] [(.ref am)])) rfl rfl (hb hby d41_21)
  refine own_go (st' := T3.setTop (mkF m 24 #[oR it, oR ar] [(.int (1 : Int32))])) (st3) ?_
  refine own_go (st' := T3.setTop (mkF m 25 #[oR it, oR ar] [(.ref it), (.int (1 : Int32))])) (fun _ k => XS.aloadN X3.here hx rfl (hb hby d41_24) rfl rfl k) ?_
  obtain ⟨T4, X4, e4, st4⟩ := getF X3 hx hZ hown (host := "") (Or.inl (own_hw hw 289)) Via.refl e3 pr3 (g := (mkF m 25 #[oR it, oR ar] [(.ref it), (.int (1 : Int32))])) rfl rfl (hb hby d41_25)
  refine own_go (st' := T4.setTop (mkF m 28 #[oR it, oR ar] [(.int (1 : Int32)), (.int (1 : Int32))])) (st4) ?_
  have hc5 : (1 : Int32) = (1 : Int32) := by decide
  refine own_go (st' := T4.setTop (mkF m 39 #[oR it, oR ar] [])) (fun _ k => XS.icmpYes X4.here hx rfl (pc0 := 28) (pc' := 39) rfl (hb hby d41_28) rfl (teq hc5).1 (by decide) (by decide) k) ?_
  refine own_go (st' := T4.setTop (mkF m 40 #[oR it, oR ar] [(.ref it)])) (fun _ k => XS.aloadN X4.here hx rfl (hb hby d41_39) rfl rfl k) ?_
  refine own_go (st' := T4.setTop (mkF m 41 #[oR it, oR ar] [(.ref ar), (.ref it)])) (fun _ k => XS.aloadN X4.here hx rfl (hb hby d41_40) rfl rfl k) ?_
  obtain ⟨_, _, ⟨T6, LC6, kC6, nC6⟩, -, X6, ⟨Lc6, hQ6, lq6, yq6, zq6⟩, st6⟩ := Jvm.LawKit.callS X4 hx (y := oM27) hown (mvT hZ (own_hw hw 310)) (mvT hZ (own_hw hw 311)) (mvT hZ (own_hw hw 17)) (mvT hZ (own_hw hw 312)) (by decide) (backOf (W := 1) (rm42 l Z a0 hw [] ar h0 n0 (by omega) pr7 pr8) hZ (own_hw hw 312) (own_hw hw 17) (by decide) (by decide)) (g := (mkF m 41 #[oR it, oR ar] [(.ref ar), (.ref it)])) rfl (by rw [hml]; rfl) (argsL := [(.ref ar)]) (rest := [(.ref it)]) (lenOf pd_24 rfl) rfl (by show 2 * 0 + _ ≤ _; exact Nat.le_of_eq rfl) (hb hby d41_41) (fun _ _ => ⟨rfl, e4, (by decide : 0 + 0 ≤ _), (by decide : 0 + 0 ≤ _)⟩)
  dsimp only [Pt.U, Pt.locs, Pt.cells, Pt.slots] at X6 lq6 yq6 zq6 st6 hQ6
  subst lq6 yq6 zq6
  obtain ⟨rfl, Nq6, eq6⟩ := hQ6
  have N6 := Fr.app N0 Nq6
  refine own_go (st' := T6.setTop (mkF m 44 #[oR it, oR ar] [.null, (.ref it)])) (fun t k => st6 t k) ?_
  obtain ⟨T7, h7, X7, e7, W7, st7⟩ := putF X6 hx hZ hown (host := "") (Or.inl (own_hw hw 293)) Via.refl eq6 pr5 pr1 (Or.inl (own_hw hw 294)) (own_hw hw 266) (ty := (.object oS1)) (by decide) rfl rfl (g := (mkF m 44 #[oR it, oR ar] [.null, (.ref it)])) rfl rfl (hb hby d41_44)
  have sz7 : h7.size = h0.size := W7.size
  have N7 := Fr.snoc X7 N6 (by omega)
  have f7 : Fld Z h7 it oS4 "next" oS2 .null := pr5.same W7
  refine own_go (st' := T7.setTop (mkF m 47 #[oR it, oR ar] [])) (st7) ?_
  refine own_go (st' := T7.setTop (mkF m 48 #[oR it, oR ar] [(.ref it)])) (fun _ k => XS.aloadN X7.here hx rfl (hb hby d41_47) rfl rfl k) ?_
  refine own_go (st' := T7.setTop (mkF m 49 #[oR it, oR ar] [(.ref ar), (.ref it)])) (fun _ k => XS.aloadN X7.here hx rfl (hb hby d41_48) rfl rfl k) ?_
  have c8 : Fld Z h7 it oS4 oS18 oS2 .null := (pr4.other W7 (Or.inr (slot_ne (Or.inl (own_hw hw 292)) (Or.inl (own_hw hw 294)) (by decide) (t := (.object oS1)) (t' := (.object oS1)) (by decide) (by decide))))
  have c9 : Exa Z h7 it oS26 := (pr1.wr W7)
  obtain ⟨T10, h10, X10, e10, W10, st10⟩ := putF X7 hx hZ hown (host := "") (Or.inl (own_hw hw 291)) Via.refl e7 c8 c9 (Or.inl (own_hw hw 292)) (own_hw hw 266) (ty := (.object oS1)) (by decide) rfl rfl (g := (mkF m 49 #[oR it, oR ar] [(.ref ar), (.ref it)])) rfl rfl (hb hby d41_49)
  have sz10 : h10.size = h7.size := W10.size
  have N10 := Fr.snoc X10 N7 (by omega)
  have f10 : Fld Z h10 it oS4 oS18 oS2 (.ref ar) := c8.same W10
  refine own_go (st' := T10.setTop (mkF m 52 #[oR it, oR ar] [])) (st10) ?_
  refine own_go (st' := T10.setTop (mkF m 53 #[oR it, oR ar] [(.ref ar)])) (fun _ k => XS.aloadN X10.here hx rfl (hb hby d41_52) rfl rfl k) ?_
  obtain ⟨fs, hr, hrun, hended, hW, hsame⟩ := X10.leave (v := some (.ref ar)) (fun h => by rw [Bd.returns] at h; cases h)
  refine ⟨_, _, ?_, hP _ _ hrun hended ⟨_, _, rfl, ?_, ⟨_, rfl⟩, hW, hsame.mono (by decide) (by decide)⟩⟩
  · exact retOut X10 hx Bd.returns rfl (Or.inr (Or.inr (Or.inr (Or.inr ⟨rfl, rfl, rfl⟩)))) (hb hby d41_53) hr
  · show Qrne_K Z it am ar h0 n0 _ T10.heap _
    have c12 : Exa Z h10 it oS26 := (c9.wr W10)
    have c13 : Fld Z h10 it oS4 "this$0" oS17 (.ref am) := ((pr2.other W7 (Or.inr (slot_ne (Or.inr (own_hw hw 286)) (Or.inl (own_hw hw 294)) (by decide) (t := (.object oS0)) (t' := (.object oS1)) (by decide) (by decide)))).other W10 (Or.inr (slot_ne (Or.inr (own_hw hw 286)) (Or.inl (own_hw hw 292)) (by decide) (t := (.object oS0)) (t' := (.object oS1)) (by decide) (by decide))))
    have c14 : Fld Z h10 it oS4 oS20 "I" (.int (1 : Int32)) := ((pr3.other W7 (Or.inr (slot_ne (Or.inl (own_hw hw 290)) (Or.inl (own_hw hw 294)) (by decide) (t := .int) (t' := (.object oS1)) (by decide) (by decide)))).other W10 (Or.inr (slot_ne (Or.inl (own_hw hw 290)) (Or.inl (own_hw hw 292)) (by decide) (t := .int) (t' := (.object oS1)) (by decide) (by decide))))
    have c15 : Fld Z h10 it oS4 "next" oS2 .null := (f7.other W10 (Or.inr (slot_ne (Or.inl (own_hw hw 294)) (Or.inl (own_hw hw 292)) (by decide) (t := (.object oS1)) (t' := (.object oS1)) (by decide) (by decide))))
    rw [e10]
    exact ⟨rfl, N10, (((Keep.refl h0 [it]).wr W7 (Or.inl (List.mem_of_getElem? (i := 0) rfl))).wr W10 (Or.inl (List.mem_of_getElem? (i := 0) rfl))), c12, c13, c14, f10, c15⟩
theorem d40_0 : decode jdk_2740_method_2_code 0 = .ok (.aload_n 0, 1) := by decide +kernel
theorem d40_1 : decode jdk_2740_method_2_code 1 = .ok (.invokevirtual 7, 3) := by decide +kernel
theorem d40_4 : decode jdk_2740_method_2_code 4 = .ok (.getfield 13, 3) := by decide +kernel
theorem d40_7 : decode jdk_2740_method_2_code 7 = .ok (.areturn, 1) := by decide +kernel
theorem pn_40 : plainName "java/util/TreeMap$KeyIterator" = true := by first | (simp [plainName, overriddenIn]; done) | decide +kernel
theorem ef_rm40 (m : MethodId) (x0 : Addr) : entryFrame m #[(.ref x0)] 1 = mkF m 0 #[.val (.ref x0)] [] := by first | (simp [entryFrame, mkF, argsToLocals, Value.category]; done) | rfl
def Qrm40 (Z : State) (it : Addr) (am : Addr) (ar : Addr) (ak : Addr) (h0 : Heap) (n0 : Nat) (v : Option Value) (h : Heap) (L : List Loc) : Prop := (v = some (.ref ak)) ∧ (Fr n0 L) ∧ (Keep h0 h [it]) ∧ (Exa Z h it "java/util/TreeMap$KeyIterator") ∧ (Fld Z h it "java/util/TreeMap$PrivateEntryIterator" "this$0" "Ljava/util/TreeMap;" (.ref am)) ∧ (Fld Z h it "java/util/TreeMap$PrivateEntryIterator" "expectedModCount" "I" (.int (1 : Int32))) ∧ (Fld Z h it "java/util/TreeMap$PrivateEntryIterator" "lastReturned" "Ljava/util/TreeMap$Entry;" (.ref ar)) ∧ (Fld Z h it "java/util/TreeMap$PrivateEntryIterator" "next" "Ljava/util/TreeMap$Entry;" .null)
set_option maxRecDepth 65536 in
set_option maxHeartbeats 40000000 in
theorem rm40 (l : Launch) (Z : State) (a0 : Array Value) (hw : ∀ d ∈ tables_1, d.before a0 Z = true) (ws : List Jvm.Cond) (it : Addr) (am : Addr) (ar : Addr) (ak : Addr) (h0 : Heap) (n0 : Nat) (Z0 : n0 ≤ h0.size) (pr1 : Exa Z h0 it oS26) (pr2 : Fld Z h0 it oS4 "this$0" oS17 (.ref am)) (pr3 : Fld Z h0 it oS4 oS20 "I" (.int (1 : Int32))) (pr4 : Fld Z h0 it oS4 oS18 oS2 .null) (pr5 : Fld Z h0 it oS4 "next" oS2 (.ref ar)) (pr6 : Fld Z h0 am oS0 "modCount" "I" (.int (1 : Int32))) (pr7 : Fld Z h0 ar oS1 "right" oS2 .null) (pr8 : Fld Z h0 ar oS1 "parent" oS2 .null) (pr9 : n0 ≤ it) (pr10 : own_D it ar) (pr11 : own_D it am) (pr12 : Exa Z h0 ar oS1) (pr13 : Fld Z h0 ar oS1 "key" oS8 (.ref ak)) :
    MetFree l oM28 (head1 (Jvm.Cond.code oM28 jdk_2740_method_2_code 1 (some (.object oS16)) :: ws) ({ frames := 2, cells := 0, slots := 0, locals := 28 } : Room)) (fun a U => a = #[(.ref it)] ∧ Z.Warmed39 U.vm ∧ U.heap = h0) (fun _ _ _ _ _ => True) (fun _ U o U' => ∃ v L, o = .returned v ∧ Qrm40 Z it am ar ak h0 n0 v U'.heap L ∧ FrameEnd U o U' L ({ frames := 2, cells := 0, slots := 0, locals := 28 } : Room).cells ({ frames := 2, cells := 0, slots := 0, locals := 28 } : Room).slots) := by
  refine MetFree.of_bodySF (plainFor_of_name pn_40) hisR ?_
  intro p e s m args below meth c s₁ Bd hml0 hP0 hK
  obtain ⟨rfl, hZ, hh⟩ := hP0
  have hx := Bd.exec
  have hby := Bd.bytes
  have hml : c.maxLocals = 1 := hml0
  have hown : s.vm.findClass oS26 = some m.cls := findClass_of_methodNamed Bd.named
  have hnm := (name_of_methodNamed Bd.named Bd.method).1
  have X0 : Stand p l e ({ frames := 2, cells := 0, slots := 0, locals := 28 } : Room) s m #[(.ref it)] below meth c s₁ [] 0 0 := Stand.of_body Bd
  have e0 : s₁.heap = h0 := by rw [← hh, Bd.state]; rfl
  have N0 := Fr.nil n0
  refine own_fin (st' := s₁.setTop (mkF m 0 #[oR it] [])) (fun _ k => castTop (ef_rm40 m it) k) (fun P hP => ?_)
  have lt_it : @LT.lt Nat _ it h0.size := pr1.lt
  have lt_am : @LT.lt Nat _ am h0.size := pr6.lt
  have lt_ar : @LT.lt Nat _ ar h0.size := pr7.lt
  refine own_go (st' := s₁.setTop (mkF m 1 #[oR it] [(.ref it)])) (fun _ k => XS.aloadN X0.here hx rfl (hb hby d40_0) rfl rfl k) ?_
  obtain ⟨cq1, kq1, q1a, q1b, q1c⟩ := isOf hZ e0 pr1
  obtain ⟨_, _, ⟨T1, LC1, kC1, nC1⟩, -, X1, ⟨Lc1, hQ1, lq1, yq1, zq1⟩, st1⟩ := X0.virtualBackUp hx (owner := oS4) (x := (⟨oS26, "nextEntry", "()Ljava/util/TreeMap$Entry;"⟩ : MethodName)) (y := oM9) hown (mvT hZ (own_hw hw 304)) (mvT hZ (own_hw hw 305)) (mvT hZ (own_hw hw 306)) (by decide) (mvT hZ (own_hw hw 308)) (mvT hZ (own_hw hw 307)) (backOf (W := 0) (rne_K l Z a0 hw [] it am ar h0 n0 (by omega) pr1 pr2 pr3 pr4 pr5 pr6 pr7 pr8 (by omega) own_nr own_nr) hZ (own_hw hw 309) (own_hw hw 283) (by decide) (by decide)) q1a q1c (g := (mkF m 1 #[oR it] [(.ref it)])) rfl (by rw [hml]; rfl) (Steps.refl _) (argsL := []) (rest := []) (lenOf pd_22 rfl) rfl (by show 2 * 0 + _ ≤ _; exact Nat.le_of_eq rfl) (hb hby d40_1) (fun _ _ => ⟨rfl, e0, (by decide : 0 + 0 ≤ _), (by decide : 0 + 0 ≤ _)⟩)
  dsimp only [Pt.U, Pt.locs, Pt.cells, Pt.slots] at X1 lq1 yq1 zq1 st1 hQ1
  subst lq1 yq1 zq1
  obtain ⟨h1, e1⟩ : ∃ z, T1.heap = z := ⟨_, rfl⟩
  rw [e1] at hQ1
  obtain ⟨rfl, Nq1, K1, g1_0, g1_1, g1_2, g1_3, g1_4⟩ := hQ1
  have sz1 : h0.size ≤ h1.size := K1.1
  have N1 := Fr.app N0 Nq1
  have lt1_1 : @LT.lt Nat _ it h1.size := g1_0.lt
  refine own_go (st' := T1.setTop (mkF m 4 #[oR it] [(.ref ar)])) (fun _ k => st1.trans k) ?_
  have c2 : Fld Z h1 ar oS1 "key" oS8 (.ref ak) := (pr13.keep K1 (ninS own_nq nin0))
  obtain ⟨T3, X3, e3, st3⟩ := getF X1 hx hZ hown (host := "") (Or.inl (own_hw hw 316)) Via.refl e1 c2 (g := (mkF m 4 #[oR it] [(.ref ar)])) rfl rfl (hb hby d40_4)
  refine own_go (st' := T3.setTop (mkF m 7 #[oR it] [(.ref ak)])) (st3) ?_
  obtain ⟨fs, hr, hrun, hended, hW, hsame⟩ := X3.leave (v := some (.ref ak)) (fun h => by rw [Bd.returns] at h; cases h)
  refine ⟨_, _, ?_, hP _ _ hrun hended ⟨_, _, rfl, ?_, ⟨_, rfl⟩, hW, hsame.mono (by decide) (by decide)⟩⟩
  · exact retOut X3 hx Bd.returns rfl (Or.inr (Or.inr (Or.inr (Or.inr ⟨rfl, rfl, rfl⟩)))) (hb hby d40_7) hr
  · show Qrm40 Z it am ar ak h0 n0 _ T3.heap _
    rw [e3]
    exact ⟨rfl, N1, ((Keep.refl h0 [it]).trans K1 (allS (P := fun x => x ∈ [it] ∨ h0.size ≤ x) (Or.inl (List.mem_of_getElem? (i := 0) rfl)) all0)), g1_0, g1_1, g1_2, g1_3, g1_4⟩
theorem ef_rne_E (m : MethodId) (x0 : Addr) : entryFrame m #[(.ref x0)] 2 = mkF m 0 #[.val (.ref x0), .unset] [] := by first | (simp [entryFrame, mkF, argsToLocals, Value.category]; done) | rfl
def Qrne_E (Z : State) (it : Addr) (am : Addr) (ar : Addr) (h0 : Heap) (n0 : Nat) (v : Option Value) (h : Heap) (L : List Loc) : Prop := (v = some (.ref ar)) ∧ (Fr n0 L) ∧ (Keep h0 h [it]) ∧ (Exa Z h it "java/util/TreeMap$EntryIterator") ∧ (Fld Z h it "java/util/TreeMap$PrivateEntryIterator" "this$0" "Ljava/util/TreeMap;" (.ref am)) ∧ (Fld Z h it "java/util/TreeMap$PrivateEntryIterator" "expectedModCount" "I" (.int (1 : Int32))) ∧ (Fld Z h it "java/util/TreeMap$PrivateEntryIterator" "lastReturned" "Ljava/util/TreeMap$Entry;" (.ref ar)) ∧ (Fld Z h it "java/util/TreeMap$PrivateEntryIterator" "next" "Ljava/util/TreeMap$Entry;" .null)
set_option maxRecDepth 65536 in
set_option maxHeartbeats 40000000 in
theorem rne_E (l : Launch) (Z : State) (a0 : Array Value) (hw : ∀ d ∈ tables_1, d.before a0 Z = true) (ws : List Jvm.Cond) (it : Addr) (am : Addr) (ar : Addr) (h0 : Heap) (n0 : Nat) (Z0 : n0 ≤ h0.size) (pr1 : Exa Z h0 it oS22) (pr2 : Fld Z h0 it oS4 "this$0" oS17 (.ref am)) (pr3 : Fld Z h0 it oS4 oS20 "I" (.int (1 : Int32))) (pr4 : Fld Z h0 it oS4 oS18 oS2 .null) (pr5 : Fld Z h0 it oS4 "next" oS2 (.ref ar)) (pr6 : Fld Z h0 am oS0 "modCount" "I" (.int (1 : Int32))) (pr7 : Fld Z h0 ar oS1 "right" oS2 .null) (pr8 : Fld Z h0 ar oS1 "parent" oS2 .null) (pr9 : n0 ≤ it) (pr10 : own_D it ar) (pr11 : own_D it am) :
    MetFree l oM9 (head1 (Jvm.Cond.code oM9 jdk_2750_method_3_code 2 (some (.object oS1)) :: ws) ({ frames := 1, cells := 0, slots := 0, locals := 15 } : Room)) (fun a U => a = #[(.ref it)] ∧ Z.Warmed39 U.vm ∧ U.heap = h0) (fun _ _ _ _ _ => True) (fun _ U o U' => ∃ v L, o = .returned v ∧ Qrne_E Z it am ar h0 n0 v U'.heap L ∧ FrameEnd U o U' L ({ frames := 1, cells := 0, slots := 0, locals := 15 } : Room).cells ({ frames := 1, cells := 0, slots := 0, locals := 15 } : Room).slots) := by
  refine MetFree.of_bodySF (plainFor_of_name pn_41) hisR ?_
  intro p e s m args below meth c s₁ Bd hml0 hP0 hK
  obtain ⟨rfl, hZ, hh⟩ := hP0
  have hx := Bd.exec
  have hby := Bd.bytes
  have hml : c.maxLocals = 2 := hml0
  have hown : s.vm.findClass oS4 = some m.cls := findClass_of_methodNamed Bd.named
  have hnm := (name_of_methodNamed Bd.named Bd.method).1
  have X0 : Stand p l e ({ frames := 1, cells := 0, slots := 0, locals := 15 } : Room) s m #[(.ref it)] below meth c s₁ [] 0 0 := Stand.of_body Bd
  have e0 : s₁.heap = h0 := by rw [← hh, Bd.state]; rfl
  have N0 := Fr.nil n0
  refine own_fin (st' := s₁.setTop (mkF m 0 #[oR it, .unset] [])) (fun _ k => castTop (ef_rne_E m it) k) (fun P hP => ?_)
  have lt_it : @LT.lt Nat _ it h0.size := pr1.lt
  have lt_am : @LT.lt Nat _ am h0.size := pr6.lt
  have lt_ar : @LT.lt Nat _ ar h0.size := pr7.lt
  refine own_go (st' := s₁.setTop (mkF m 1 #[oR it, .unset] [(.ref it)])) (fun _ k => XS.aloadN X0.here hx rfl (hb hby d41_0) rfl rfl k) ?_
  obtain ⟨T1, X1, e1, st1⟩ := getF X0 hx hZ hown (host := "") (Or.inl (own_hw hw 293)) Via.refl e0 pr5 (g := (mkF m 1 #[oR it, .unset] [(.ref it)])) rfl rfl (hb hby d41_1)
  refine own_go (st' := T1.setTop (mkF m 4 #[oR it, .unset] [(.ref ar)])) (st1) ?_
  refine own_go (st' := T1.setTop (mkF m 5 #[oR it, oR ar] [])) (fun _ k => XS.astoreN X1.here hx rfl (hb hby d41_4) rfl rfl (l' := #[oR it, oR ar]) rfl k) ?_
  refine own_go (st' := T1.setTop (mkF m 6 #[oR it, oR ar] [(.ref ar)])) (fun _ k => XS.aloadN X1.here hx rfl (hb hby d41_5) rfl rfl k) ?_
  refine own_go (st' := T1.setTop (mkF m 17 #[oR it, oR ar] [])) (fun _ k => XS.ifnonnullYes X1.here hx rfl (pc0 := 6) (pc' := 17) rfl (hb hby d41_6) rfl (by decide) (by decide) k) ?_
  refine own_go (st' := T1.setTop (mkF m 18 #[oR it, oR ar] [(.ref it)])) (fun _ k => XS.aloadN X1.here hx rfl (hb hby d41_17) rfl rfl k) ?_
  obtain ⟨T2, X2, e2, st2⟩ := getF X1 hx hZ hown (host := "") (Or.inl (own_hw hw 285)) Via.refl e1 pr2 (g := (mkF m 18 #[oR it, oR ar] [(.ref it)])) rfl rfl (hb hby d41_18)
  refine own_go (st' := T2.setTop (mkF m 21 #[oR it, oR ar] [(.ref am)])) (st2) ?_
  obtain ⟨T3, X3, e3, st3⟩ := own_getR X2 hx hZ hown (own_hw hw 288) e2 pr6 (g := (mkF m 21 #[oR it, oR ar] [(.ref am)])) rfl rfl (hb hby d41_21)
  refine own_go (st' := T3.setTop (mkF m 24 #[oR it, oR ar] [(.int (1 : Int32))])) (st3) ?_
  refine own_go (st' := T3.setTop (mkF m 25 #[oR it, oR ar] [(.ref it), (.int (1 : Int32))])) (fun _ k => XS.aloadN X3.here hx rfl (hb hby d41_24) rfl rfl k) ?_
  obtain ⟨T4, X4, e4, st4⟩ := getF X3 hx hZ hown (host := "") (Or.inl (own_hw hw 289)) Via.refl e3 pr3 (g := (mkF m 25 #[oR it, oR ar] [(.ref it), (.int (1 : Int32))])) rfl rfl (hb hby d41_25)
  refine own_go (st' := T4.setTop (mkF m 28 #[oR it, oR ar] [(.int (1 : Int32)), (.int (1 : Int32))])) (st4) ?_
  have hc5 : (1 : Int32) = (1 : Int32) := by decide
  refine own_go (st' := T4.setTop (mkF m 39 #[oR it, oR ar] [])) (fun _ k => XS.icmpYes X4.here hx rfl (pc0 := 28) (pc' := 39) rfl (hb hby d41_28) rfl (teq hc5).1 (by decide) (by decide) k) ?_
  refine own_go (st' := T4.setTop (mkF m 40 #[oR it, oR ar] [(.ref it)])) (fun _ k => XS.aloadN X4.here hx rfl (hb hby d41_39) rfl rfl k) ?_
  refine own_go (st' := T4.setTop (mkF m 41 #[oR it, oR ar] [(.ref ar), (.ref it)])) (fun _ k => XS.aloadN X4.here hx rfl (hb hby d41_40) rfl rfl k) ?_
  obtain ⟨_, _, ⟨T6, LC6, kC6, nC6⟩, -, X6, ⟨Lc6, hQ6, lq6, yq6, zq6⟩, st6⟩ := Jvm.LawKit.callS X4 hx (y := oM27) hown (mvT hZ (own_hw hw 310)) (mvT hZ (own_hw hw 311)) (mvT hZ (own_hw hw 17)) (mvT hZ (own_hw hw 312)) (by decide) (backOf (W := 1) (rm42 l Z a0 hw [] ar h0 n0 (by omega) pr7 pr8) hZ (own_hw hw 312) (own_hw hw 17) (by decide) (by decide)) (g := (mkF m 41 #[oR it, oR ar] [(.ref ar), (.ref it)])) rfl (by rw [hml]; rfl) (argsL := [(.ref ar)]) (rest := [(.ref it)]) (lenOf pd_24 rfl) rfl (by show 2 * 0 + _ ≤ _; exact Nat.le_of_eq rfl) (hb hby d41_41) (fun _ _ => ⟨rfl, e4, (by decide : 0 + 0 ≤ _), (by decide : 0 + 0 ≤ _)⟩)
  dsimp only [Pt.U, Pt.locs, Pt.cells, Pt.slots] at X6 lq6 yq6 zq6 st6 hQ6
  subst lq6 yq6 zq6
  obtain ⟨rfl, Nq6, eq6⟩ := hQ6
  have N6 := Fr.app N0 Nq6
  refine own_go (st' := T6.setTop (mkF m 44 #[oR it, oR ar] [.null, (.ref it)])) (fun t k => st6 t k) ?_
  obtain ⟨T7, h7, X7, e7, W7, st7⟩ := putF X6 hx hZ hown (host := "") (Or.inl (own_hw hw 293)) Via.refl eq6 pr5 pr1 (Or.inl (own_hw hw 365)) (own_hw hw 353) (ty := (.object oS1)) (by decide) rfl rfl (g := (mkF m 44 #[oR it, oR ar] [.null, (.ref it)])) rfl rfl (hb hby d41_44)
  have sz7 : h7.size = h0.size := W7.size
  have N7 := Fr.snoc X7 N6 (by omega)
  have f7 : Fld Z h7 it oS4 "next" oS2 .null := pr5.same W7
  refine own_go (st' := T7.setTop (mkF m 47 #[oR it, oR ar] [])) (st7) ?_
  refine own_go (st' := T7.setTop (mkF m 48 #[oR it, oR ar] [(.ref it)])) (fun _ k => XS.aloadN X7.here hx rfl (hb hby d41_47) rfl rfl k) ?_
  refine own_go (st' := T7.setTop (mkF m 49 #[oR it, oR ar] [(.ref ar), (.ref it)])) (fun _ k => XS.aloadN X7.here hx rfl (hb hby d41_48) rfl rfl k) ?_
  have c8 : Fld Z h7 it oS4 oS18 oS2 .null := (pr4.other W7 (Or.inr (slot_ne (Or.inl (own_hw hw 364)) (Or.inl (own_hw hw 365)) (by decide) (t := (.object oS1)) (t' := (.object oS1)) (by decide) (by decide))))
  have c9 : Exa Z h7 it oS22 := (pr1.wr W7)
  obtain ⟨T10, h10, X10, e10, W10, st10⟩ := putF X7 hx hZ hown (host := "") (Or.inl (own_hw hw 291)) Via.refl e7 c8 c9 (Or.inl (own_hw hw 364)) (own_hw hw 353) (ty := (.object oS1)) (by decide) rfl rfl (g := (mkF m 49 #[oR it, oR ar] [(.ref ar), (.ref it)])) rfl rfl (hb hby d41_49)
  have sz10 : h10.size = h7.size := W10.size
  have N10 := Fr.snoc X10 N7 (by omega)
  have f10 : Fld Z h10 it oS4 oS18 oS2 (.ref ar) := c8.same W10
  refine own_go (st' := T10.setTop (mkF m 52 #[oR it, oR ar] [])) (st10) ?_
  refine own_go (st' := T10.setTop (mkF m 53 #[oR it, oR ar] [(.ref ar)])) (fun _ k => XS.aloadN X10.here hx rfl (hb hby d41_52) rfl rfl k) ?_
  obtain ⟨fs, hr, hrun, hended, hW, hsame⟩ := X10.leave (v := some (.ref ar)) (fun h => by rw [Bd.returns] at h; cases h)
  refine ⟨_, _, ?_, hP _ _ hrun hended ⟨_, _, rfl, ?_, ⟨_, rfl⟩, hW, hsame.mono (by decide) (by decide)⟩⟩
  · exact retOut X10 hx Bd.returns rfl (Or.inr (Or.inr (Or.inr (Or.inr ⟨rfl, rfl, rfl⟩)))) (hb hby d41_53) hr
  · show Qrne_E Z it am ar h0 n0 _ T10.heap _
    have c12 : Exa Z h10 it oS22 := (c9.wr W10)
    have c13 : Fld Z h10 it oS4 "this$0" oS17 (.ref am) := ((pr2.other W7 (Or.inr (slot_ne (Or.inr (own_hw hw 362)) (Or.inl (own_hw hw 365)) (by decide) (t := (.object oS0)) (t' := (.object oS1)) (by decide) (by decide)))).other W10 (Or.inr (slot_ne (Or.inr (own_hw hw 362)) (Or.inl (own_hw hw 364)) (by decide) (t := (.object oS0)) (t' := (.object oS1)) (by decide) (by decide))))
    have c14 : Fld Z h10 it oS4 oS20 "I" (.int (1 : Int32)) := ((pr3.other W7 (Or.inr (slot_ne (Or.inl (own_hw hw 363)) (Or.inl (own_hw hw 365)) (by decide) (t := .int) (t' := (.object oS1)) (by decide) (by decide)))).other W10 (Or.inr (slot_ne (Or.inl (own_hw hw 363)) (Or.inl (own_hw hw 364)) (by decide) (t := .int) (t' := (.object oS1)) (by decide) (by decide))))
    have c15 : Fld Z h10 it oS4 "next" oS2 .null := (f7.other W10 (Or.inr (slot_ne (Or.inl (own_hw hw 365)) (Or.inl (own_hw hw 364)) (by decide) (t := (.object oS1)) (t' := (.object oS1)) (by decide) (by decide))))
    rw [e10]
    exact ⟨rfl, N10, (((Keep.refl h0 [it]).wr W7 (Or.inl (List.mem_of_getElem? (i := 0) rfl))).wr W10 (Or.inl (List.mem_of_getElem? (i := 0) rfl))), c12, c13, c14, f10, c15⟩
theorem d49_0 : decode jdk_2737_method_2_code 0 = .ok (.aload_n 0, 1) := by decide +kernel
theorem d49_1 : decode jdk_2737_method_2_code 1 = .ok (.invokevirtual 7, 3) := by decide +kernel
theorem d49_4 : decode jdk_2737_method_2_code 4 = .ok (.areturn, 1) := by decide +kernel
theorem pn_49 : plainName "java/util/TreeMap$EntryIterator" = true := by first | (simp [plainName, overriddenIn]; done) | decide +kernel
theorem ef_rm49 (m : MethodId) (x0 : Addr) : entryFrame m #[(.ref x0)] 1 = mkF m 0 #[.val (.ref x0)] [] := by first | (simp [entryFrame, mkF, argsToLocals, Value.category]; done) | rfl
def Qrm49 (Z : State) (it : Addr) (am : Addr) (ar : Addr) (h0 : Heap) (n0 : Nat) (v : Option Value) (h : Heap) (L : List Loc) : Prop := (v = some (.ref ar)) ∧ (Fr n0 L) ∧ (Keep h0 h [it]) ∧ (Exa Z h it "java/util/TreeMap$EntryIterator") ∧ (Fld Z h it "java/util/TreeMap$PrivateEntryIterator" "this$0" "Ljava/util/TreeMap;" (.ref am)) ∧ (Fld Z h it "java/util/TreeMap$PrivateEntryIterator" "expectedModCount" "I" (.int (1 : Int32))) ∧ (Fld Z h it "java/util/TreeMap$PrivateEntryIterator" "lastReturned" "Ljava/util/TreeMap$Entry;" (.ref ar)) ∧ (Fld Z h it "java/util/TreeMap$PrivateEntryIterator" "next" "Ljava/util/TreeMap$Entry;" .null)
set_option maxRecDepth 65536 in
set_option maxHeartbeats 40000000 in
theorem rm49 (l : Launch) (Z : State) (a0 : Array Value) (hw : ∀ d ∈ tables_1, d.before a0 Z = true) (ws : List Jvm.Cond) (it : Addr) (am : Addr) (ar : Addr) (h0 : Heap) (n0 : Nat) (Z0 : n0 ≤ h0.size) (pr1 : Exa Z h0 it oS22) (pr2 : Fld Z h0 it oS4 "this$0" oS17 (.ref am)) (pr3 : Fld Z h0 it oS4 oS20 "I" (.int (1 : Int32))) (pr4 : Fld Z h0 it oS4 oS18 oS2 .null) (pr5 : Fld Z h0 it oS4 "next" oS2 (.ref ar)) (pr6 : Fld Z h0 am oS0 "modCount" "I" (.int (1 : Int32))) (pr7 : Fld Z h0 ar oS1 "right" oS2 .null) (pr8 : Fld Z h0 ar oS1 "parent" oS2 .null) (pr9 : n0 ≤ it) (pr10 : own_D it ar) (pr11 : own_D it am) :
    MetFree l oM29 (head1 (Jvm.Cond.code oM29 jdk_2737_method_2_code 1 (some (.object "java/util/Map$Entry")) :: ws) ({ frames := 2, cells := 0, slots := 0, locals := 28 } : Room)) (fun a U => a = #[(.ref it)] ∧ Z.Warmed39 U.vm ∧ U.heap = h0) (fun _ _ _ _ _ => True) (fun _ U o U' => ∃ v L, o = .returned v ∧ Qrm49 Z it am ar h0 n0 v U'.heap L ∧ FrameEnd U o U' L ({ frames := 2, cells := 0, slots := 0, locals := 28 } : Room).cells ({ frames := 2, cells := 0, slots := 0, locals := 28 } : Room).slots) := by
  refine MetFree.of_bodySF (plainFor_of_name pn_49) hisR ?_
  intro p e s m args below meth c s₁ Bd hml0 hP0 hK
  obtain ⟨rfl, hZ, hh⟩ := hP0
  have hx := Bd.exec
  have hby := Bd.bytes
  have hml : c.maxLocals = 1 := hml0
  have hown : s.vm.findClass oS22 = some m.cls := findClass_of_methodNamed Bd.named
  have hnm := (name_of_methodNamed Bd.named Bd.method).1
  have X0 : Stand p l e ({ frames := 2, cells := 0, slots := 0, locals := 28 } : Room) s m #[(.ref it)] below meth c s₁ [] 0 0 := Stand.of_body Bd
  have e0 : s₁.heap = h0 := by rw [← hh, Bd.state]; rfl
  have N0 := Fr.nil n0
  refine own_fin (st' := s₁.setTop (mkF m 0 #[oR it] [])) (fun _ k => castTop (ef_rm49 m it) k) (fun P hP => ?_)
  have lt_it : @LT.lt Nat _ it h0.size := pr1.lt
  have lt_am : @LT.lt Nat _ am h0.size := pr6.lt
  have lt_ar : @LT.lt Nat _ ar h0.size := pr7.lt
  refine own_go (st' := s₁.setTop (mkF m 1 #[oR it] [(.ref it)])) (fun _ k => XS.aloadN X0.here hx rfl (hb hby d49_0) rfl rfl k) ?_
  obtain ⟨cq1, kq1, q1a, q1b, q1c⟩ := isOf hZ e0 pr1
  obtain ⟨_, _, ⟨T1, LC1, kC1, nC1⟩, -, X1, ⟨Lc1, hQ1, lq1, yq1, zq1⟩, st1⟩ := X0.virtualBackUp hx (owner := oS4) (x := (⟨oS22, "nextEntry", "()Ljava/util/TreeMap$Entry;"⟩ : MethodName)) (y := oM9) hown (mvT hZ (own_hw hw 385)) (mvT hZ (own_hw hw 386)) (mvT hZ (own_hw hw 306)) (by decide) (mvT hZ (own_hw hw 387)) (mvT hZ (own_hw hw 307)) (backOf (W := 0) (rne_E l Z a0 hw [] it am ar h0 n0 (by omega) pr1 pr2 pr3 pr4 pr5 pr6 pr7 pr8 (by omega) own_nr own_nr) hZ (own_hw hw 309) (own_hw hw 283) (by decide) (by decide)) q1a q1c (g := (mkF m 1 #[oR it] [(.ref it)])) rfl (by rw [hml]; rfl) (Steps.refl _) (argsL := []) (rest := []) (lenOf pd_22 rfl) rfl (by show 2 * 0 + _ ≤ _; exact Nat.le_of_eq rfl) (hb hby d49_1) (fun _ _ => ⟨rfl, e0, (by decide : 0 + 0 ≤ _), (by decide : 0 + 0 ≤ _)⟩)
  dsimp only [Pt.U, Pt.locs, Pt.cells, Pt.slots] at X1 lq1 yq1 zq1 st1 hQ1
  subst lq1 yq1 zq1
  obtain ⟨h1, e1⟩ : ∃ z, T1.heap = z := ⟨_, rfl⟩
  rw [e1] at hQ1
  obtain ⟨rfl, Nq1, K1, g1_0, g1_1, g1_2, g1_3, g1_4⟩ := hQ1
  have sz1 : h0.size ≤ h1.size := K1.1
  have N1 := Fr.app N0 Nq1
  have lt1_1 : @LT.lt Nat _ it h1.size := g1_0.lt
  refine own_go (st' := T1.setTop (mkF m 4 #[oR it] [(.ref ar)])) (fun _ k => st1.trans k) ?_
  obtain ⟨fs, hr, hrun, hended, hW, hsame⟩ := X1.leave (v := some (.ref ar)) (fun h => by rw [Bd.returns] at h; cases h)
  refine ⟨_, _, ?_, hP _ _ hrun hended ⟨_, _, rfl, ?_, ⟨_, rfl⟩, hW, hsame.mono (by decide) (by decide)⟩⟩
  · exact retOut X1 hx Bd.returns rfl (Or.inr (Or.inr (Or.inr (Or.inr ⟨rfl, rfl, rfl⟩)))) (hb hby d49_4) hr
  · show Qrm49 Z it am ar h0 n0 _ T1.heap _
    rw [e1]
    exact ⟨rfl, N1, ((Keep.refl h0 [it]).trans K1 (allS (P := fun x => x ∈ [it] ∨ h0.size ≤ x) (Or.inl (List.mem_of_getElem? (i := 0) rfl)) all0)), g1_0, g1_1, g1_2, g1_3, g1_4⟩
theorem pd_25 : parseMethodDescriptor "()Ljava/util/Map$Entry;" = some ⟨[], some (.object "java/util/Map$Entry")⟩ := by decide +kernel
theorem d48_0 : decode jdk_2737_method_3_code 0 = .ok (.aload_n 0, 1) := by decide +kernel
theorem d48_1 : decode jdk_2737_method_3_code 1 = .ok (.invokevirtual 13, 3) := by decide +kernel
theorem d48_4 : decode jdk_2737_method_3_code 4 = .ok (.areturn, 1) := by decide +kernel
theorem pn_48 : plainName "java/util/TreeMap$EntryIterator" = true := by first | (simp [plainName, overriddenIn]; done) | decide +kernel
theorem ef_rm48 (m : MethodId) (x0 : Addr) : entryFrame m #[(.ref x0)] 1 = mkF m 0 #[.val (.ref x0)] [] := by first | (simp [entryFrame, mkF, argsToLocals, Value.category]; done) | rfl
def Qrm48 (Z : State) (it : Addr) (am : Addr) (ar : Addr) (h0 : Heap) (n0 : Nat) (v : Option Value) (h : Heap) (L : List Loc) : Prop := (v = some (.ref ar)) ∧ (Fr n0 L) ∧ (Keep h0 h [it]) ∧ (Exa Z h it "java/util/TreeMap$EntryIterator") ∧ (Fld Z h it "java/util/TreeMap$PrivateEntryIterator" "this$0" "Ljava/util/TreeMap;" (.ref am)) ∧ (Fld Z h it "java/util/TreeMap$PrivateEntryIterator" "expectedModCount" "I" (.int (1 : Int32))) ∧ (Fld Z h it "java/util/TreeMap$PrivateEntryIterator" "lastReturned" "Ljava/util/TreeMap$Entry;" (.ref ar)) ∧ (Fld Z h it "java/util/TreeMap$PrivateEntryIterator" "next" "Ljava/util/TreeMap$Entry;" .null)
set_option maxRecDepth 65536 in
set_option maxHeartbeats 40000000 in
theorem rm48 (l : Launch) (Z : State) (a0 : Array Value) (hw : ∀ d ∈ tables_1, d.before a0 Z = true) (ws : List Jvm.Cond) (it : Addr) (am : Addr) (ar : Addr) (h0 : Heap) (n0 : Nat) (Z0 : n0 ≤ h0.size) (pr1 : Exa Z h0 it oS22) (pr2 : Fld Z h0 it oS4 "this$0" oS17 (.ref am)) (pr3 : Fld Z h0 it oS4 oS20 "I" (.int (1 : Int32))) (pr4 : Fld Z h0 it oS4 oS18 oS2 .null) (pr5 : Fld Z h0 it oS4 "next" oS2 (.ref ar)) (pr6 : Fld Z h0 am oS0 "modCount" "I" (.int (1 : Int32))) (pr7 : Fld Z h0 ar oS1 "right" oS2 .null) (pr8 : Fld Z h0 ar oS1 "parent" oS2 .null) (pr9 : n0 ≤ it) (pr10 : own_D it ar) (pr11 : own_D it am) :
    MetFree l oM30 (head1 (Jvm.Cond.code oM30 jdk_2737_method_3_code 1 (some (.object oS16)) :: ws) ({ frames := 3, cells := 0, slots := 0, locals := 40 } : Room)) (fun a U => a = #[(.ref it)] ∧ Z.Warmed39 U.vm ∧ U.heap = h0) (fun _ _ _ _ _ => True) (fun _ U o U' => ∃ v L, o = .returned v ∧ Qrm48 Z it am ar h0 n0 v U'.heap L ∧ FrameEnd U o U' L ({ frames := 3, cells := 0, slots := 0, locals := 40 } : Room).cells ({ frames := 3, cells := 0, slots := 0, locals := 40 } : Room).slots) := by
  refine MetFree.of_bodySF (plainFor_of_name pn_48) hisR ?_
  intro p e s m args below meth c s₁ Bd hml0 hP0 hK
  obtain ⟨rfl, hZ, hh⟩ := hP0
  have hx := Bd.exec
  have hby := Bd.bytes
  have hml : c.maxLocals = 1 := hml0
  have hown : s.vm.findClass oS22 = some m.cls := findClass_of_methodNamed Bd.named
  have hnm := (name_of_methodNamed Bd.named Bd.method).1
  have X0 : Stand p l e ({ frames := 3, cells := 0, slots := 0, locals := 40 } : Room) s m #[(.ref it)] below meth c s₁ [] 0 0 := Stand.of_body Bd
  have e0 : s₁.heap = h0 := by rw [← hh, Bd.state]; rfl
  have N0 := Fr.nil n0
  refine own_fin (st' := s₁.setTop (mkF m 0 #[oR it] [])) (fun _ k => castTop (ef_rm48 m it) k) (fun P hP => ?_)
  have lt_it : @LT.lt Nat _ it h0.size := pr1.lt
  have lt_am : @LT.lt Nat _ am h0.size := pr6.lt
  have lt_ar : @LT.lt Nat _ ar h0.size := pr7.lt
  refine own_go (st' := s₁.setTop (mkF m 1 #[oR it] [(.ref it)])) (fun _ k => XS.aloadN X0.here hx rfl (hb hby d48_0) rfl rfl k) ?_
  obtain ⟨cq1, kq1, q1a, q1b, q1c⟩ := isOf hZ e0 pr1
  obtain ⟨_, _, ⟨T1, LC1, kC1, nC1⟩, -, X1, ⟨Lc1, hQ1, lq1, yq1, zq1⟩, st1⟩ := X0.virtualBack hx (y := oM29) (z := oM29) hown (mvT hZ (own_hw hw 380)) (mvT hZ (own_hw hw 381)) (notFace_of_selects (args := #[]) (mvT hZ (own_hw hw 383))) (mvT hZ (own_hw hw 383)) (mvT hZ (own_hw hw 382)) (by decide) (backOf (W := 0) (rm49 l Z a0 hw [] it am ar h0 n0 (by omega) pr1 pr2 pr3 pr4 pr5 pr6 pr7 pr8 (by omega) own_nr own_nr) hZ (own_hw hw 384) (own_hw hw 354) (by decide) (by decide)) q1a q1c (g := (mkF m 1 #[oR it] [(.ref it)])) rfl (by rw [hml]; rfl) (Steps.refl _) (argsL := []) (rest := []) (lenOf pd_25 rfl) rfl (by show 2 * 0 + _ ≤ _; exact Nat.le_of_eq rfl) (hb hby d48_1) (fun _ _ => ⟨rfl, e0, (by decide : 0 + 0 ≤ _), (by decide : 0 + 0 ≤ _)⟩)
  dsimp only [Pt.U, Pt.locs, Pt.cells, Pt.slots] at X1 lq1 yq1 zq1 st1 hQ1
  subst lq1 yq1 zq1
  obtain ⟨h1, e1⟩ : ∃ z, T1.heap = z := ⟨_, rfl⟩
  rw [e1] at hQ1
  obtain ⟨rfl, Nq1, K1, g1_0, g1_1, g1_2, g1_3, g1_4⟩ := hQ1
  have sz1 : h0.size ≤ h1.size := K1.1
  have N1 := Fr.app N0 Nq1
  have lt1_1 : @LT.lt Nat _ it h1.size := g1_0.lt
  refine own_go (st' := T1.setTop (mkF m 4 #[oR it] [(.ref ar)])) (fun _ k => st1.trans k) ?_
  obtain ⟨fs, hr, hrun, hended, hW, hsame⟩ := X1.leave (v := some (.ref ar)) (fun h => by rw [Bd.returns] at h; cases h)
  refine ⟨_, _, ?_, hP _ _ hrun hended ⟨_, _, rfl, ?_, ⟨_, rfl⟩, hW, hsame.mono (by decide) (by decide)⟩⟩
  · exact retOut X1 hx Bd.returns rfl (Or.inr (Or.inr (Or.inr (Or.inr ⟨rfl, rfl, rfl⟩)))) (hb hby d48_4) hr
  · show Qrm48 Z it am ar h0 n0 _ T1.heap _
    rw [e1]
    exact ⟨rfl, N1, ((Keep.refl h0 [it]).trans K1 (allS (P := fun x => x ∈ [it] ∨ h0.size ≤ x) (Or.inl (List.mem_of_getElem? (i := 0) rfl)) all0)), g1_0, g1_1, g1_2, g1_3, g1_4⟩
theorem d44_0 : decode jdk_2738_method_1_code 0 = .ok (.aload_n 0, 1) := by decide +kernel
theorem d44_1 : decode jdk_2738_method_1_code 1 = .ok (.aload_n 1, 1) := by decide +kernel
theorem d44_2 : decode jdk_2738_method_1_code 2 = .ok (.putfield 1, 3) := by decide +kernel
theorem d44_5 : decode jdk_2738_method_1_code 5 = .ok (.aload_n 0, 1) := by decide +kernel
theorem d44_6 : decode jdk_2738_method_1_code 6 = .ok (.invokespecial 7, 3) := by decide +kernel
theorem d44_9 : decode jdk_2738_method_1_code 9 = .ok (.return_, 1) := by decide +kernel
theorem pn_44 : plainName "java/util/TreeMap$EntrySet" = true := by first | (simp [plainName, overriddenIn]; done) | decide +kernel
theorem ef_rm44 (m : MethodId) (x0 : Addr) (x1 : Addr) : entryFrame m #[(.ref x0), (.ref x1)] 2 = mkF m 0 #[.val (.ref x0), .val (.ref x1)] [] := by first | (simp [entryFrame, mkF, argsToLocals, Value.category]; done) | rfl
def Qrm44 (Z : State) (a1 : Addr) (am : Addr) (h0 : Heap) (n0 : Nat) (v : Option Value) (h : Heap) (L : List Loc) : Prop := (v = none) ∧ (Fr n0 L) ∧ (Keep h0 h [a1]) ∧ (Exa Z h a1 "java/util/TreeMap$EntrySet") ∧ (Fld Z h a1 "java/util/TreeMap$EntrySet" "this$0" "Ljava/util/TreeMap;" (.ref am))
set_option maxRecDepth 65536 in
set_option maxHeartbeats 40000000 in
theorem rm44 (l : Launch) (Z : State) (a0 : Array Value) (hw : ∀ d ∈ tables_1, d.before a0 Z = true) (ws : List Jvm.Cond) (a1 : Addr) (am : Addr) (h0 : Heap) (n0 : Nat) (Z0 : n0 ≤ h0.size) (pr1 : Exa Z h0 a1 oS14) (pr2 : Fld Z h0 a1 oS14 "this$0" oS17 .null) (pr3 : n0 ≤ a1) :
    MetFree l oM63 (head1 (Jvm.Cond.code oM63 jdk_2738_method_1_code 2 none :: ws) ({ frames := 3, cells := 0, slots := 0, locals := 36 } : Room)) (fun a U => a = #[(.ref a1), (.ref am)] ∧ Z.Warmed39 U.vm ∧ U.heap = h0) (fun _ _ _ _ _ => True) (fun _ U o U' => ∃ v L, o = .returned v ∧ Qrm44 Z a1 am h0 n0 v U'.heap L ∧ FrameEnd U o U' L ({ frames := 3, cells := 0, slots := 0, locals := 36 } : Room).cells ({ frames := 3, cells := 0, slots := 0, locals := 36 } : Room).slots) := by
  refine MetFree.of_bodySF (plainFor_of_name pn_44) hisR ?_
  intro p e s m args below meth c s₁ Bd hml0 hP0 hK
  obtain ⟨rfl, hZ, hh⟩ := hP0
  have hx := Bd.exec
  have hby := Bd.bytes
  have hml : c.maxLocals = 2 := hml0
  have hown : s.vm.findClass oS14 = some m.cls := findClass_of_methodNamed Bd.named
  have hnm := (name_of_methodNamed Bd.named Bd.method).1
  have X0 : Stand p l e ({ frames := 3, cells := 0, slots := 0, locals := 36 } : Room) s m #[(.ref a1), (.ref am)] below meth c s₁ [] 0 0 := Stand.of_body Bd
  have e0 : s₁.heap = h0 := by rw [← hh, Bd.state]; rfl
  have N0 := Fr.nil n0
  refine own_fin (st' := s₁.setTop (mkF m 0 #[oR a1, oR am] [])) (fun _ k => castTop (ef_rm44 m a1 am) k) (fun P hP => ?_)
  have lt_a1 : @LT.lt Nat _ a1 h0.size := pr1.lt
  refine own_go (st' := s₁.setTop (mkF m 1 #[oR a1, oR am] [(.ref a1)])) (fun _ k => XS.aloadN X0.here hx rfl (hb hby d44_0) rfl rfl k) ?_
  refine own_go (st' := s₁.setTop (mkF m 2 #[oR a1, oR am] [(.ref am), (.ref a1)])) (fun _ k => XS.aloadN X0.here hx rfl (hb hby d44_1) rfl rfl k) ?_
  obtain ⟨T1, h1, X1, e1, W1, st1⟩ := putF X0 hx hZ hown (host := "") (Or.inl (own_hw hw 341)) Via.refl e0 pr2 pr1 (Or.inr ⟨(own_hw hw 342), rfl, hnm⟩) (own_hw hw 335) (ty := (.object oS0)) (by decide) rfl rfl (g := (mkF m 2 #[oR a1, oR am] [(.ref am), (.ref a1)])) rfl rfl (hb hby d44_2)
  have sz1 : h1.size = h0.size := W1.size
  have N1 := Fr.snoc X1 N0 (by omega)
  have f1 : Fld Z h1 a1 oS14 "this$0" oS17 (.ref am) := pr2.same W1
  refine own_go (st' := T1.setTop (mkF m 5 #[oR a1, oR am] [])) (st1) ?_
  refine own_go (st' := T1.setTop (mkF m 6 #[oR a1, oR am] [(.ref a1)])) (fun _ k => XS.aloadN X1.here hx rfl (hb hby d44_5) rfl rfl k) ?_
  obtain ⟨_, _, ⟨T2, LC2, kC2, nC2⟩, -, X2, ⟨Lc2, hQ2, lq2, yq2, zq2⟩, st2⟩ := X1.specialBack hx (y := oM13) rfl hown (mvT hZ (own_hw hw 343)) (mvT hZ (own_hw hw 235)) (mvT hZ (own_hw hw 239)) (by decide) (backOf (W := 0) (rm33 l Z a0 hw [] a1 h1 n0 (by omega) ) hZ (own_hw hw 239) (own_hw hw 238) (by decide) (by decide)) (g := (mkF m 6 #[oR a1, oR am] [(.ref a1)])) rfl (by rw [hml]; rfl) (Steps.refl _) (a := a1) (argsL := []) (rest := []) (lenOf pd_0 rfl) rfl (by show 2 * 0 + _ ≤ _; exact Nat.le_of_eq rfl) (hb hby d44_6) (fun _ _ => ⟨rfl, e1, (by decide : 0 + 0 ≤ _), (by decide : 0 + 0 ≤ _)⟩)
  dsimp only [Pt.U, Pt.locs, Pt.cells, Pt.slots] at X2 lq2 yq2 zq2 st2 hQ2
  subst lq2 yq2 zq2
  obtain ⟨rfl, Nq2, eq2⟩ := hQ2
  have N2 := Fr.app N1 Nq2
  refine own_go (st' := T2.setTop (mkF m 9 #[oR a1, oR am] [])) (fun _ k => st2.trans k) ?_
  obtain ⟨fs, hr, hrun, hended, hW, hsame⟩ := X2.leave (v := none) (fun _ => rfl)
  refine ⟨_, _, ?_, hP _ _ hrun hended ⟨_, _, rfl, ?_, ⟨_, rfl⟩, hW, hsame.mono (by decide) (by decide)⟩⟩
  · exact X2.returnOut hx Bd.returns (hb hby d44_9) hr
  · show Qrm44 Z a1 am h0 n0 _ T2.heap _
    have c4 : Exa Z h1 a1 oS14 := (pr1.wr W1)
    rw [eq2]
    exact ⟨rfl, N2, ((Keep.refl h0 [a1]).wr W1 (Or.inl (List.mem_of_getElem? (i := 0) rfl))), c4, f1⟩
theorem pd_26 : parseMethodDescriptor "(Ljava/util/TreeMap;)V" = some ⟨[(.object "java/util/TreeMap")], none⟩ := by decide +kernel
theorem d43_0 : decode jdk_2729_method_53_code 0 = .ok (.aload_n 0, 1) := by decide +kernel
theorem d43_1 : decode jdk_2729_method_53_code 1 = .ok (.getfield 188, 3) := by decide +kernel
theorem d43_4 : decode jdk_2729_method_53_code 4 = .ok (.astore_n 1, 1) := by decide +kernel
theorem d43_5 : decode jdk_2729_method_53_code 5 = .ok (.aload_n 1, 1) := by decide +kernel
theorem d43_6 : decode jdk_2729_method_53_code 6 = .ok (.ifnull 7, 3) := by decide +kernel
theorem d43_13 : decode jdk_2729_method_53_code 13 = .ok (.aload_n 0, 1) := by decide +kernel
theorem d43_14 : decode jdk_2729_method_53_code 14 = .ok (.new 242, 3) := by decide +kernel
theorem d43_17 : decode jdk_2729_method_53_code 17 = .ok (.dup, 1) := by decide +kernel
theorem d43_18 : decode jdk_2729_method_53_code 18 = .ok (.aload_n 0, 1) := by decide +kernel
theorem d43_19 : decode jdk_2729_method_53_code 19 = .ok (.invokespecial 244, 3) := by decide +kernel
theorem d43_22 : decode jdk_2729_method_53_code 22 = .ok (.dup_x1, 1) := by decide +kernel
theorem d43_23 : decode jdk_2729_method_53_code 23 = .ok (.putfield 188, 3) := by decide +kernel
theorem d43_26 : decode jdk_2729_method_53_code 26 = .ok (.areturn, 1) := by decide +kernel
theorem pn_43 : plainName "java/util/TreeMap" = true := by first | (simp [plainName, overriddenIn]; done) | decide +kernel
theorem ef_rm43 (m : MethodId) (x0 : Addr) : entryFrame m #[(.ref x0)] 2 = mkF m 0 #[.val (.ref x0), .unset] [] := by first | (simp [entryFrame, mkF, argsToLocals, Value.category]; done) | rfl
def Qrm43 (Z : State) (am : Addr) (cmp : Addr) (ar : Addr) (ks : Addr) (h0 : Heap) (n0 : Nat) (v : Option Value) (h : Heap) (L : List Loc) : Prop := ∃ (es : Addr), (v = some (.ref es)) ∧ (Fr n0 L) ∧ (Keep h0 h [am]) ∧ (Exa Z h am "java/util/TreeMap") ∧ (Fld Z h am "java/util/TreeMap" "comparator" "Ljava/util/Comparator;" (.ref cmp)) ∧ (Fld Z h am "java/util/TreeMap" "root" "Ljava/util/TreeMap$Entry;" (.ref ar)) ∧ (Fld Z h am "java/util/TreeMap" "size" "I" (.int (1 : Int32))) ∧ (Fld Z h am "java/util/TreeMap" "modCount" "I" (.int (1 : Int32))) ∧ (Fld Z h am "java/util/TreeMap" "navigableKeySet" "Ljava/util/TreeMap$KeySet;" (.ref ks)) ∧ (Fld Z h am "java/util/TreeMap" "entrySet" "Ljava/util/TreeMap$EntrySet;" (.ref es)) ∧ (Exa Z h es "java/util/TreeMap$EntrySet") ∧ (Fld Z h es "java/util/TreeMap$EntrySet" "this$0" "Ljava/util/TreeMap;" (.ref am)) ∧ (h0.size ≤ es)
set_option maxRecDepth 65536 in
set_option maxHeartbeats 40000000 in
theorem rm43 (l : Launch) (Z : State) (a0 : Array Value) (hw : ∀ d ∈ tables_1, d.before a0 Z = true) (ws : List Jvm.Cond) (am : Addr) (cmp : Addr) (ar : Addr) (ks : Addr) (h0 : Heap) (n0 : Nat) (Z0 : n0 ≤ h0.size) (pr1 : Exa Z h0 am oS0) (pr2 : Fld Z h0 am oS0 "comparator" oS6 (.ref cmp)) (pr3 : Fld Z h0 am oS0 "root" oS2 (.ref ar)) (pr4 : Fld Z h0 am oS0 "size" "I" (.int (1 : Int32))) (pr5 : Fld Z h0 am oS0 "modCount" "I" (.int (1 : Int32))) (pr6 : Fld Z h0 am oS0 oS10 oS11 (.ref ks)) (pr7 : Fld Z h0 am oS0 "entrySet" oS12 .null) (pr8 : n0 ≤ am) :
    MetFree l oM31 (head1 (Jvm.Cond.code oM31 jdk_2729_method_53_code 2 (some (.object "java/util/Set")) :: ws) ({ frames := 4, cells := 1, slots := 1, locals := 51 } : Room)) (fun a U => a = #[(.ref am)] ∧ Z.Warmed39 U.vm ∧ U.heap = h0) (fun _ _ _ _ _ => True) (fun _ U o U' => ∃ v L, o = .returned v ∧ Qrm43 Z am cmp ar ks h0 n0 v U'.heap L ∧ FrameEnd U o U' L ({ frames := 4, cells := 1, slots := 1, locals := 51 } : Room).cells ({ frames := 4, cells := 1, slots := 1, locals := 51 } : Room).slots) := by
  refine MetFree.of_bodySF (plainFor_of_name pn_43) hisR ?_
  intro p e s m args below meth c s₁ Bd hml0 hP0 hK
  obtain ⟨rfl, hZ, hh⟩ := hP0
  have hx := Bd.exec
  have hby := Bd.bytes
  have hml : c.maxLocals = 2 := hml0
  have hown : s.vm.findClass oS0 = some m.cls := findClass_of_methodNamed Bd.named
  have hnm := (name_of_methodNamed Bd.named Bd.method).1
  have X0 : Stand p l e ({ frames := 4, cells := 1, slots := 1, locals := 51 } : Room) s m #[(.ref am)] below meth c s₁ [] 0 0 := Stand.of_body Bd
  have e0 : s₁.heap = h0 := by rw [← hh, Bd.state]; rfl
  have N0 := Fr.nil n0
  refine own_fin (st' := s₁.setTop (mkF m 0 #[oR am, .unset] [])) (fun _ k => castTop (ef_rm43 m am) k) (fun P hP => ?_)
  have lt_am : @LT.lt Nat _ am h0.size := pr1.lt
  refine own_go (st' := s₁.setTop (mkF m 1 #[oR am, .unset] [(.ref am)])) (fun _ k => XS.aloadN X0.here hx rfl (hb hby d43_0) rfl rfl k) ?_
  obtain ⟨T1, X1, e1, st1⟩ := getF X0 hx hZ hown (host := "") (Or.inl (own_hw hw 332)) Via.refl e0 pr7 (g := (mkF m 1 #[oR am, .unset] [(.ref am)])) rfl rfl (hb hby d43_1)
  refine own_go (st' := T1.setTop (mkF m 4 #[oR am, .unset] [.null])) (st1) ?_
  refine own_go (st' := T1.setTop (mkF m 5 #[oR am, .val .null] [])) (fun _ k => XS.astoreN X1.here hx rfl (hb hby d43_4) rfl rfl (l' := #[oR am, .val .null]) rfl k) ?_
  refine own_go (st' := T1.setTop (mkF m 6 #[oR am, .val .null] [.null])) (fun _ k => XS.aloadN X1.here hx rfl (hb hby d43_5) rfl rfl k) ?_
  refine own_go (st' := T1.setTop (mkF m 13 #[oR am, .val .null] [])) (fun _ k => XS.ifnullYes X1.here hx rfl (pc0 := 6) (pc' := 13) rfl (hb hby d43_6) rfl (by decide) (by decide) k) ?_
  refine own_go (st' := T1.setTop (mkF m 14 #[oR am, .val .null] [(.ref am)])) (fun _ k => XS.aloadN X1.here hx rfl (hb hby d43_13) rfl rfl k) ?_
  obtain ⟨T2, h2, X2, e2, E2, A2, D2, -, st2⟩ := newO X1 hx hZ hown (own_hw hw 334) (own_hw hw 335) (own_hw hw 336) e1 (g := (mkF m 14 #[oR am, .val .null] [(.ref am)])) rfl (hb hby d43_14) (by decide) (by decide)
  obtain ⟨b2, g2⟩ : ∃ z, z = h0.size := ⟨_, rfl⟩
  rw [← g2] at A2 D2 st2
  have sz2 : h0.size ≤ h2.size := E2.1
  have lt2 : @LT.lt Nat _ b2 h2.size := A2.lt
  have f3 : Fld Z h2 b2 oS14 "this$0" oS17 .null := D2 (Or.inr (own_hw hw 342)) (ty := (.object oS0)) (by decide)
  refine own_go (st' := T2.setTop (mkF m 17 #[oR am, .val .null] [(.ref b2), (.ref am)])) (st2) ?_
  refine own_go (st' := T2.setTop (mkF m 18 #[oR am, .val .null] [(.ref b2), (.ref b2), (.ref am)])) (fun _ k => XS.dup X2.here hx rfl (hb hby d43_17) rfl rfl k) ?_
  refine own_go (st' := T2.setTop (mkF m 19 #[oR am, .val .null] [(.ref am), (.ref b2), (.ref b2), (.ref am)])) (fun _ k => XS.aloadN X2.here hx rfl (hb hby d43_18) rfl rfl k) ?_
  obtain ⟨_, _, ⟨T4, LC4, kC4, nC4⟩, -, X4, ⟨Lc4, hQ4, lq4, yq4, zq4⟩, st4⟩ := X2.specialBack hx (y := oM63) rfl hown (mvT hZ (own_hw hw 337)) (mvT hZ (own_hw hw 338)) (mvT hZ (own_hw hw 340)) (by decide) (backOf (W := 2) (rm44 l Z a0 hw [] b2 am h2 n0 (by omega) A2 f3 (by omega)) hZ (own_hw hw 340) (own_hw hw 336) (by decide) (by decide)) (g := (mkF m 19 #[oR am, .val .null] [(.ref am), (.ref b2), (.ref b2), (.ref am)])) rfl (by rw [hml]; rfl) (Steps.refl _) (a := b2) (argsL := [(.ref am)]) (rest := [(.ref b2), (.ref am)]) (lenOf pd_26 rfl) rfl (by show 2 * 0 + _ ≤ _; exact Nat.le_of_eq rfl) (hb hby d43_19) (fun _ _ => ⟨rfl, e2, (by decide : 1 + 0 ≤ _), (by decide : 1 + 0 ≤ _)⟩)
  dsimp only [Pt.U, Pt.locs, Pt.cells, Pt.slots] at X4 lq4 yq4 zq4 st4 hQ4
  subst lq4 yq4 zq4
  obtain ⟨h4, e4⟩ : ∃ z, T4.heap = z := ⟨_, rfl⟩
  rw [e4] at hQ4
  obtain ⟨rfl, Nq4, K4, g4_0, g4_1⟩ := hQ4
  have sz4 : h2.size ≤ h4.size := K4.1
  have N4 := Fr.app N0 Nq4
  have lt4_1 : @LT.lt Nat _ b2 h4.size := g4_0.lt
  refine own_go (st' := T4.setTop (mkF m 22 #[oR am, .val .null] [(.ref b2), (.ref am)])) (fun _ k => st4.trans k) ?_
  refine own_go (st' := T4.setTop (mkF m 23 #[oR am, .val .null] [(.ref b2), (.ref am), (.ref b2)])) (fun _ k => XS.dupX1 X4.here hx rfl (hb hby d43_22) rfl rfl rfl k) ?_
  have c5 : Fld Z h4 am oS0 "entrySet" oS12 .null := ((pr7.ext E2).keep K4 (ninS own_nq nin0))
  have c6 : Exa Z h4 am oS0 := ((pr1.ext E2).keep K4)
  obtain ⟨T7, h7, X7, e7, W7, st7⟩ := putF X4 hx hZ hown (host := "") (Or.inl (own_hw hw 332)) Via.refl e4 c5 c6 (Or.inl (own_hw hw 333)) (own_hw hw 16) (ty := (.object oS14)) (by decide) rfl rfl (g := (mkF m 23 #[oR am, .val .null] [(.ref b2), (.ref am), (.ref b2)])) rfl rfl (hb hby d43_23)
  have sz7 : h7.size = h4.size := W7.size
  have N7 := Fr.snoc X7 N4 (by omega)
  have f7 : Fld Z h7 am oS0 "entrySet" oS12 (.ref b2) := c5.same W7
  refine own_go (st' := T7.setTop (mkF m 26 #[oR am, .val .null] [(.ref b2)])) (st7) ?_
  obtain ⟨fs, hr, hrun, hended, hW, hsame⟩ := X7.leave (v := some (.ref b2)) (fun h => by rw [Bd.returns] at h; cases h)
  refine ⟨_, _, ?_, hP _ _ hrun hended ⟨_, _, rfl, ?_, ⟨_, rfl⟩, hW, hsame.mono (by decide) (by decide)⟩⟩
  · exact retOut X7 hx Bd.returns rfl (Or.inr (Or.inr (Or.inr (Or.inr ⟨rfl, rfl, rfl⟩)))) (hb hby d43_26) hr
  · show Qrm43 Z am cmp ar ks h0 n0 _ T7.heap _
    have c9 : Exa Z h7 am oS0 := (c6.wr W7)
    have c10 : Fld Z h7 am oS0 "comparator" oS6 (.ref cmp) := (((pr2.ext E2).keep K4 (ninS own_nq nin0)).other W7 (Or.inr (slot_ne (Or.inr (own_hw hw 35)) (Or.inl (own_hw hw 333)) (by decide) (t := (.object oS23)) (t' := (.object oS14)) (by decide) (by decide))))
    have c11 : Fld Z h7 am oS0 "root" oS2 (.ref ar) := (((pr3.ext E2).keep K4 (ninS own_nq nin0)).other W7 (Or.inr (slot_ne (Or.inl (own_hw hw 86)) (Or.inl (own_hw hw 333)) (by decide) (t := (.object oS1)) (t' := (.object oS14)) (by decide) (by decide))))
    have c12 : Fld Z h7 am oS0 "size" "I" (.int (1 : Int32)) := (((pr4.ext E2).keep K4 (ninS own_nq nin0)).other W7 (Or.inr (slot_ne (Or.inl (own_hw hw 31)) (Or.inl (own_hw hw 333)) (by decide) (t := .int) (t' := (.object oS14)) (by decide) (by decide))))
    have c13 : Fld Z h7 am oS0 "modCount" "I" (.int (1 : Int32)) := (((pr5.ext E2).keep K4 (ninS own_nq nin0)).other W7 (Or.inr (slot_ne (Or.inl (own_hw hw 33)) (Or.inl (own_hw hw 333)) (by decide) (t := .int) (t' := (.object oS14)) (by decide) (by decide))))
    have c14 : Fld Z h7 am oS0 oS10 oS11 (.ref ks) := (((pr6.ext E2).keep K4 (ninS own_nq nin0)).other W7 (Or.inr (slot_ne (Or.inl (own_hw hw 226)) (Or.inl (own_hw hw 333)) (by decide) (t := (.object oS15)) (t' := (.object oS14)) (by decide) (by decide))))
    have c15 : Exa Z h7 b2 oS14 := (g4_0.wr W7)
    have c16 : Fld Z h7 b2 oS14 "this$0" oS17 (.ref am) := (g4_1.other W7 (Or.inl own_nq))
    rw [e7]
    exact ⟨b2, rfl, N7, ((((Keep.refl h0 [am]).ext E2).trans K4 (allS (P := fun x => x ∈ [am] ∨ h0.size ≤ x) (Or.inr (by omega)) all0)).wr W7 (Or.inl (List.mem_of_getElem? (i := 0) rfl))), c9, c10, c11, c12, c13, c14, f7, c15, c16, (by omega)⟩
theorem d45_0 : decode jdk_2738_method_2_code 0 = .ok (.new 13, 3) := by decide +kernel
theorem d45_3 : decode jdk_2738_method_2_code 3 = .ok (.dup, 1) := by decide +kernel
theorem d45_4 : decode jdk_2738_method_2_code 4 = .ok (.aload_n 0, 1) := by decide +kernel
theorem d45_5 : decode jdk_2738_method_2_code 5 = .ok (.getfield 1, 3) := by decide +kernel
theorem d45_8 : decode jdk_2738_method_2_code 8 = .ok (.aload_n 0, 1) := by decide +kernel
theorem d45_9 : decode jdk_2738_method_2_code 9 = .ok (.getfield 1, 3) := by decide +kernel
theorem d45_12 : decode jdk_2738_method_2_code 12 = .ok (.invokevirtual 15, 3) := by decide +kernel
theorem d45_15 : decode jdk_2738_method_2_code 15 = .ok (.invokespecial 21, 3) := by decide +kernel
theorem d45_18 : decode jdk_2738_method_2_code 18 = .ok (.areturn, 1) := by decide +kernel
theorem pn_45 : plainName "java/util/TreeMap$EntrySet" = true := by first | (simp [plainName, overriddenIn]; done) | decide +kernel
theorem ef_rm45 (m : MethodId) (x0 : Addr) : entryFrame m #[(.ref x0)] 1 = mkF m 0 #[.val (.ref x0)] [] := by first | (simp [entryFrame, mkF, argsToLocals, Value.category]; done) | rfl
def Qrm45 (Z : State) (es : Addr) (am : Addr) (ar : Addr) (h0 : Heap) (n0 : Nat) (v : Option Value) (h : Heap) (L : List Loc) : Prop := ∃ (it : Addr), (v = some (.ref it)) ∧ (Fr n0 L) ∧ (Keep h0 h []) ∧ (Exa Z h it "java/util/TreeMap$EntryIterator") ∧ (Fld Z h it "java/util/TreeMap$PrivateEntryIterator" "this$0" "Ljava/util/TreeMap;" (.ref am)) ∧ (Fld Z h it "java/util/TreeMap$PrivateEntryIterator" "expectedModCount" "I" (.int (1 : Int32))) ∧ (Fld Z h it "java/util/TreeMap$PrivateEntryIterator" "lastReturned" "Ljava/util/TreeMap$Entry;" .null) ∧ (Fld Z h it "java/util/TreeMap$PrivateEntryIterator" "next" "Ljava/util/TreeMap$Entry;" (.ref ar)) ∧ (h0.size ≤ it)
set_option maxRecDepth 65536 in
set_option maxHeartbeats 40000000 in
theorem rm45 (l : Launch) (Z : State) (a0 : Array Value) (hw : ∀ d ∈ tables_1, d.before a0 Z = true) (ws : List Jvm.Cond) (es : Addr) (am : Addr) (ar : Addr) (h0 : Heap) (n0 : Nat) (Z0 : n0 ≤ h0.size) (pr1 : Exa Z h0 es oS14) (pr2 : Fld Z h0 es oS14 "this$0" oS17 (.ref am)) (pr3 : Exa Z h0 am oS0) (pr4 : Fld Z h0 am oS0 "modCount" "I" (.int (1 : Int32))) (pr5 : Fld Z h0 am oS0 "root" oS2 (.ref ar)) (pr6 : Fld Z h0 ar oS1 "left" oS2 .null) :
    MetFree l oM32 (head1 (Jvm.Cond.code oM32 jdk_2738_method_2_code 1 (some (.object "java/util/Iterator")) :: ws) ({ frames := 3, cells := 1, slots := 4, locals := 41 } : Room)) (fun a U => a = #[(.ref es)] ∧ Z.Warmed39 U.vm ∧ U.heap = h0) (fun _ _ _ _ _ => True) (fun _ U o U' => ∃ v L, o = .returned v ∧ Qrm45 Z es am ar h0 n0 v U'.heap L ∧ FrameEnd U o U' L ({ frames := 3, cells := 1, slots := 4, locals := 41 } : Room).cells ({ frames := 3, cells := 1, slots := 4, locals := 41 } : Room).slots) := by
  refine MetFree.of_bodySF (plainFor_of_name pn_45) hisR ?_
  intro p e s m args below meth c s₁ Bd hml0 hP0 hK
  obtain ⟨rfl, hZ, hh⟩ := hP0
  have hx := Bd.exec
  have hby := Bd.bytes
  have hml : c.maxLocals = 1 := hml0
  have hown : s.vm.findClass oS14 = some m.cls := findClass_of_methodNamed Bd.named
  have hnm := (name_of_methodNamed Bd.named Bd.method).1
  have X0 : Stand p l e ({ frames := 3, cells := 1, slots := 4, locals := 41 } : Room) s m #[(.ref es)] below meth c s₁ [] 0 0 := Stand.of_body Bd
  have e0 : s₁.heap = h0 := by rw [← hh, Bd.state]; rfl
  have N0 := Fr.nil n0
  refine own_fin (st' := s₁.setTop (mkF m 0 #[oR es] [])) (fun _ k => castTop (ef_rm45 m es) k) (fun P hP => ?_)
  have lt_es : @LT.lt Nat _ es h0.size := pr1.lt
  have lt_am : @LT.lt Nat _ am h0.size := pr3.lt
  have lt_ar : @LT.lt Nat _ ar h0.size := pr6.lt
  obtain ⟨T1, h1, X1, e1, E1, A1, D1, -, st1⟩ := newO X0 hx hZ hown (own_hw hw 352) (own_hw hw 353) (own_hw hw 354) e0 (g := (mkF m 0 #[oR es] [])) rfl (hb hby d45_0) (by decide) (by decide)
  obtain ⟨b1, g1⟩ : ∃ z, z = h0.size := ⟨_, rfl⟩
  rw [← g1] at A1 D1 st1
  have sz1 : h0.size ≤ h1.size := E1.1
  have lt1 : @LT.lt Nat _ b1 h1.size := A1.lt
  have f2 : Fld Z h1 b1 oS4 "this$0" oS17 .null := D1 (Or.inr (own_hw hw 362)) (ty := (.object oS0)) (by decide)
  have f3 : Fld Z h1 b1 oS4 oS20 "I" (.int (0 : Int32)) := D1 (Or.inl (own_hw hw 363)) (ty := .int) (by decide)
  have f4 : Fld Z h1 b1 oS4 oS18 oS2 .null := D1 (Or.inl (own_hw hw 364)) (ty := (.object oS1)) (by decide)
  have f5 : Fld Z h1 b1 oS4 "next" oS2 .null := D1 (Or.inl (own_hw hw 365)) (ty := (.object oS1)) (by decide)
  refine own_go (st' := T1.setTop (mkF m 3 #[oR es] [(.ref b1)])) (st1) ?_
  refine own_go (st' := T1.setTop (mkF m 4 #[oR es] [(.ref b1), (.ref b1)])) (fun _ k => XS.dup X1.here hx rfl (hb hby d45_3) rfl rfl k) ?_
  refine own_go (st' := T1.setTop (mkF m 5 #[oR es] [(.ref es), (.ref b1), (.ref b1)])) (fun _ k => XS.aloadN X1.here hx rfl (hb hby d45_4) rfl rfl k) ?_
  have c6 : Fld Z h1 es oS14 "this$0" oS17 (.ref am) := (pr2.ext E1)
  obtain ⟨T7, X7, e7, st7⟩ := getF X1 hx hZ hown (host := "") (Or.inl (own_hw hw 341)) Via.refl e1 c6 (g := (mkF m 5 #[oR es] [(.ref es), (.ref b1), (.ref b1)])) rfl rfl (hb hby d45_5)
  refine own_go (st' := T7.setTop (mkF m 8 #[oR es] [(.ref am), (.ref b1), (.ref b1)])) (st7) ?_
  refine own_go (st' := T7.setTop (mkF m 9 #[oR es] [(.ref es), (.ref am), (.ref b1), (.ref b1)])) (fun _ k => XS.aloadN X7.here hx rfl (hb hby d45_8) rfl rfl k) ?_
  obtain ⟨T8, X8, e8, st8⟩ := getF X7 hx hZ hown (host := "") (Or.inl (own_hw hw 341)) Via.refl e7 c6 (g := (mkF m 9 #[oR es] [(.ref es), (.ref am), (.ref b1), (.ref b1)])) rfl rfl (hb hby d45_9)
  refine own_go (st' := T8.setTop (mkF m 12 #[oR es] [(.ref am), (.ref am), (.ref b1), (.ref b1)])) (st8) ?_
  have c10 : Fld Z h1 am oS0 "root" oS2 (.ref ar) := (pr5.ext E1)
  have c11 : Fld Z h1 ar oS1 "left" oS2 .null := (pr6.ext E1)
  have c12 : Exa Z h1 am oS0 := (pr3.ext E1)
  obtain ⟨cq9, kq9, q9a, q9b, q9c⟩ := isOf hZ e8 c12
  obtain ⟨_, _, ⟨T9, LC9, kC9, nC9⟩, -, X9, ⟨Lc9, hQ9, lq9, yq9, zq9⟩, st9⟩ := X8.virtualBack hx (y := oM7) (z := oM7) hown (mvT hZ (own_hw hw 355)) (mvT hZ (own_hw hw 269)) (notFace_of_selects (args := #[]) (mvT hZ (own_hw hw 271))) (mvT hZ (own_hw hw 271)) (mvT hZ (own_hw hw 270)) (by decide) (backOf (W := 3) (rm37 l Z a0 hw [] am ar h1 n0 (by omega) c10 c11) hZ (own_hw hw 272) (own_hw hw 17) (by decide) (by decide)) q9a q9c (g := (mkF m 12 #[oR es] [(.ref am), (.ref am), (.ref b1), (.ref b1)])) rfl (by rw [hml]; rfl) (Steps.refl _) (argsL := []) (rest := [(.ref am), (.ref b1), (.ref b1)]) (lenOf pd_22 rfl) rfl (by show 2 * 0 + _ ≤ _; exact Nat.le_of_eq rfl) (hb hby d45_12) (fun _ _ => ⟨rfl, e8, (by decide : 1 + 0 ≤ _), (by decide : 4 + 0 ≤ _)⟩)
  dsimp only [Pt.U, Pt.locs, Pt.cells, Pt.slots] at X9 lq9 yq9 zq9 st9 hQ9
  subst lq9 yq9 zq9
  obtain ⟨rfl, Nq9, eq9⟩ := hQ9
  have N9 := Fr.app N0 Nq9
  refine own_go (st' := T9.setTop (mkF m 15 #[oR es] [(.ref ar), (.ref am), (.ref b1), (.ref b1)])) (fun _ k => st9.trans k) ?_
  have c14 : Fld Z h1 am oS0 "modCount" "I" (.int (1 : Int32)) := (pr4.ext E1)
  obtain ⟨_, _, ⟨T13, LC13, kC13, nC13⟩, -, X13, ⟨Lc13, hQ13, lq13, yq13, zq13⟩, st13⟩ := X9.specialBack hx (y := oM62) rfl hown (mvT hZ (own_hw hw 356)) (mvT hZ (own_hw hw 357)) (mvT hZ (own_hw hw 359)) (by decide) (backOf (W := 1) (rm46 l Z a0 hw [] b1 am ar h1 n0 (by omega) A1 f2 f3 f4 f5 c14 (by omega) own_nr) hZ (own_hw hw 359) (own_hw hw 354) (by decide) (by decide)) (g := (mkF m 15 #[oR es] [(.ref ar), (.ref am), (.ref b1), (.ref b1)])) rfl (by rw [hml]; rfl) (Steps.refl _) (a := b1) (argsL := [(.ref am), (.ref ar)]) (rest := [(.ref b1)]) (lenOf pd_21 rfl) rfl (by show 2 * 0 + _ ≤ _; exact Nat.le_of_eq rfl) (hb hby d45_15) (fun _ _ => ⟨rfl, eq9, (by decide : 1 + 0 ≤ _), (by decide : 4 + 0 ≤ _)⟩)
  dsimp only [Pt.U, Pt.locs, Pt.cells, Pt.slots] at X13 lq13 yq13 zq13 st13 hQ13
  subst lq13 yq13 zq13
  obtain ⟨h13, e13⟩ : ∃ z, T13.heap = z := ⟨_, rfl⟩
  rw [e13] at hQ13
  obtain ⟨rfl, Nq13, K13, g13_0, g13_1, g13_2, g13_3, g13_4⟩ := hQ13
  have sz13 : h1.size ≤ h13.size := K13.1
  have N13 := Fr.app N9 Nq13
  have lt13_1 : @LT.lt Nat _ b1 h13.size := g13_0.lt
  refine own_go (st' := T13.setTop (mkF m 18 #[oR es] [(.ref b1)])) (fun _ k => st13.trans k) ?_
  obtain ⟨fs, hr, hrun, hended, hW, hsame⟩ := X13.leave (v := some (.ref b1)) (fun h => by rw [Bd.returns] at h; cases h)
  refine ⟨_, _, ?_, hP _ _ hrun hended ⟨_, _, rfl, ?_, ⟨_, rfl⟩, hW, hsame.mono (by decide) (by decide)⟩⟩
  · exact retOut X13 hx Bd.returns rfl (Or.inr (Or.inr (Or.inr (Or.inr ⟨rfl, rfl, rfl⟩)))) (hb hby d45_18) hr
  · show Qrm45 Z es am ar h0 n0 _ T13.heap _
    rw [e13]
    exact ⟨b1, rfl, N13, (((Keep.refl h0 []).ext E1).trans K13 (allS (P := fun x => x ∈ [] ∨ h0.size ≤ x) (Or.inr (by omega)) all0)), g13_0, g13_1, g13_2, g13_3, g13_4, (by omega)⟩
theorem d47_0 : decode jdk_2750_method_2_code 0 = .ok (.aload_n 0, 1) := by decide +kernel
theorem d47_1 : decode jdk_2750_method_2_code 1 = .ok (.getfield 26, 3) := by decide +kernel
theorem d47_4 : decode jdk_2750_method_2_code 4 = .ok (.ifnull 7, 3) := by decide +kernel
theorem d47_7 : decode jdk_2750_method_2_code 7 = .ok (.iconst 1, 1) := by decide +kernel
theorem d47_8 : decode jdk_2750_method_2_code 8 = .ok (.goto 4, 3) := by decide +kernel
theorem d47_12 : decode jdk_2750_method_2_code 12 = .ok (.ireturn, 1) := by decide +kernel
theorem pn_47 : plainName "java/util/TreeMap$PrivateEntryIterator" = true := by first | (simp [plainName, overriddenIn]; done) | decide +kernel
theorem ef_rhn_1 (m : MethodId) (x0 : Addr) : entryFrame m #[(.ref x0)] 1 = mkF m 0 #[.val (.ref x0)] [] := by first | (simp [entryFrame, mkF, argsToLocals, Value.category]; done) | rfl
def Qrhn_1 (Z : State) (it : Addr) (ar : Addr) (h0 : Heap) (n0 : Nat) (v : Option Value) (h : Heap) (L : List Loc) : Prop := (v = some (.int (1 : Int32))) ∧ (Fr n0 L) ∧ (h = h0)
set_option maxRecDepth 65536 in
set_option maxHeartbeats 40000000 in
theorem rhn_1 (l : Launch) (Z : State) (a0 : Array Value) (hw : ∀ d ∈ tables_1, d.before a0 Z = true) (ws : List Jvm.Cond) (it : Addr) (ar : Addr) (h0 : Heap) (n0 : Nat) (Z0 : n0 ≤ h0.size) (pr1 : Fld Z h0 it oS4 "next" oS2 (.ref ar)) :
    MetFree l oM3 (head1 (Jvm.Cond.code oM3 jdk_2750_method_2_code 1 (some .boolean) :: ws) ({ frames := 0, cells := 0, slots := 0, locals := 0 } : Room)) (fun a U => a = #[(.ref it)] ∧ Z.Warmed39 U.vm ∧ U.heap = h0) (fun _ _ _ _ _ => True) (fun _ U o U' => ∃ v L, o = .returned v ∧ Qrhn_1 Z it ar h0 n0 v U'.heap L ∧ FrameEnd U o U' L ({ frames := 0, cells := 0, slots := 0, locals := 0 } : Room).cells ({ frames := 0, cells := 0, slots := 0, locals := 0 } : Room).slots) := by
  refine MetFree.of_bodySF (plainFor_of_name pn_47) hisR ?_
  intro p e s m args below meth c s₁ Bd hml0 hP0 hK
  obtain ⟨rfl, hZ, hh⟩ := hP0
  have hx := Bd.exec
  have hby := Bd.bytes
  have hml : c.maxLocals = 1 := hml0
  have hown : s.vm.findClass oS4 = some m.cls := findClass_of_methodNamed Bd.named
  have hnm := (name_of_methodNamed Bd.named Bd.method).1
  have X0 : Stand p l e ({ frames := 0, cells := 0, slots := 0, locals := 0 } : Room) s m #[(.ref it)] below meth c s₁ [] 0 0 := Stand.of_body Bd
  have e0 : s₁.heap = h0 := by rw [← hh, Bd.state]; rfl
  have N0 := Fr.nil n0
  refine own_fin (st' := s₁.setTop (mkF m 0 #[oR it] [])) (fun _ k => castTop (ef_rhn_1 m it) k) (fun P hP => ?_)
  have lt_it : @LT.lt Nat _ it h0.size := pr1.lt
  refine own_go (st' := s₁.setTop (mkF m 1 #[oR it] [(.ref it)])) (fun _ k => XS.aloadN X0.here hx rfl (hb hby d47_0) rfl rfl k) ?_
  obtain ⟨T1, X1, e1, st1⟩ := getF X0 hx hZ hown (host := "") (Or.inl (own_hw hw 293)) Via.refl e0 pr1 (g := (mkF m 1 #[oR it] [(.ref it)])) rfl rfl (hb hby d47_1)
  refine own_go (st' := T1.setTop (mkF m 4 #[oR it] [(.ref ar)])) (st1) ?_
  refine own_go (st' := T1.setTop (mkF m 7 #[oR it] [])) (fun _ k => XS.ifnullNo X1.here hx rfl (hb hby d47_4) rfl k) ?_
  refine own_go (st' := T1.setTop (mkF m 8 #[oR it] [(.int (1 : Int32))])) (fun _ k => XS.iconst X1.here hx rfl (hb hby d47_7) k) ?_
  refine own_go (st' := T1.setTop (mkF m 12 #[oR it] [(.int (1 : Int32))])) (fun _ k => XS.goto X1.here hx rfl (pc0 := 8) (pc' := 12) rfl (hb hby d47_8) (by decide) (by decide) k) ?_
  obtain ⟨fs, hr, hrun, hended, hW, hsame⟩ := X1.leave (v := some (.int (1 : Int32))) (fun h => by rw [Bd.returns] at h; cases h)
  refine ⟨_, _, ?_, hP _ _ hrun hended ⟨_, _, rfl, ?_, ⟨_, rfl⟩, hW, hsame.mono (by decide) (by decide)⟩⟩
  · exact retN X1 hx (t := .boolean) Bd.returns (by simp) (hb hby d47_12) hr
  · show Qrhn_1 Z it ar h0 n0 _ T1.heap _
    rw [e1]
    exact ⟨rfl, N0, rfl⟩
theorem d47_11 : decode jdk_2750_method_2_code 11 = .ok (.iconst 0, 1) := by decide +kernel
theorem ef_rhn_0 (m : MethodId) (x0 : Addr) : entryFrame m #[(.ref x0)] 1 = mkF m 0 #[.val (.ref x0)] [] := by first | (simp [entryFrame, mkF, argsToLocals, Value.category]; done) | rfl
def Qrhn_0 (Z : State) (it : Addr) (h0 : Heap) (n0 : Nat) (v : Option Value) (h : Heap) (L : List Loc) : Prop := (v = some (.int (0 : Int32))) ∧ (Fr n0 L) ∧ (h = h0)
set_option maxRecDepth 65536 in
set_option maxHeartbeats 40000000 in
theorem rhn_0 (l : Launch) (Z : State) (a0 : Array Value) (hw : ∀ d ∈ tables_1, d.before a0 Z = true) (ws : List Jvm.Cond) (it : Addr) (h0 : Heap) (n0 : Nat) (Z0 : n0 ≤ h0.size) (pr1 : Fld Z h0 it oS4 "next" oS2 .null) :
    MetFree l oM3 (head1 (Jvm.Cond.code oM3 jdk_2750_method_2_code 1 (some .boolean) :: ws) ({ frames := 0, cells := 0, slots := 0, locals := 0 } : Room)) (fun a U => a = #[(.ref it)] ∧ Z.Warmed39 U.vm ∧ U.heap = h0) (fun _ _ _ _ _ => True) (fun _ U o U' => ∃ v L, o = .returned v ∧ Qrhn_0 Z it h0 n0 v U'.heap L ∧ FrameEnd U o U' L ({ frames := 0, cells := 0, slots := 0, locals := 0 } : Room).cells ({ frames := 0, cells := 0, slots := 0, locals := 0 } : Room).slots) := by
  refine MetFree.of_bodySF (plainFor_of_name pn_47) hisR ?_
  intro p e s m args below meth c s₁ Bd hml0 hP0 hK
  obtain ⟨rfl, hZ, hh⟩ := hP0
  have hx := Bd.exec
  have hby := Bd.bytes
  have hml : c.maxLocals = 1 := hml0
  have hown : s.vm.findClass oS4 = some m.cls := findClass_of_methodNamed Bd.named
  have hnm := (name_of_methodNamed Bd.named Bd.method).1
  have X0 : Stand p l e ({ frames := 0, cells := 0, slots := 0, locals := 0 } : Room) s m #[(.ref it)] below meth c s₁ [] 0 0 := Stand.of_body Bd
  have e0 : s₁.heap = h0 := by rw [← hh, Bd.state]; rfl
  have N0 := Fr.nil n0
  refine own_fin (st' := s₁.setTop (mkF m 0 #[oR it] [])) (fun _ k => castTop (ef_rhn_0 m it) k) (fun P hP => ?_)
  have lt_it : @LT.lt Nat _ it h0.size := pr1.lt
  refine own_go (st' := s₁.setTop (mkF m 1 #[oR it] [(.ref it)])) (fun _ k => XS.aloadN X0.here hx rfl (hb hby d47_0) rfl rfl k) ?_
  obtain ⟨T1, X1, e1, st1⟩ := getF X0 hx hZ hown (host := "") (Or.inl (own_hw hw 293)) Via.refl e0 pr1 (g := (mkF m 1 #[oR it] [(.ref it)])) rfl rfl (hb hby d47_1)
  refine own_go (st' := T1.setTop (mkF m 4 #[oR it] [.null])) (st1) ?_
  refine own_go (st' := T1.setTop (mkF m 11 #[oR it] [])) (fun _ k => XS.ifnullYes X1.here hx rfl (pc0 := 4) (pc' := 11) rfl (hb hby d47_4) rfl (by decide) (by decide) k) ?_
  refine own_go (st' := T1.setTop (mkF m 12 #[oR it] [(.int (0 : Int32))])) (fun _ k => XS.iconst X1.here hx rfl (hb hby d47_11) k) ?_
  obtain ⟨fs, hr, hrun, hended, hW, hsame⟩ := X1.leave (v := some (.int (0 : Int32))) (fun h => by rw [Bd.returns] at h; cases h)
  refine ⟨_, _, ?_, hP _ _ hrun hended ⟨_, _, rfl, ?_, ⟨_, rfl⟩, hW, hsame.mono (by decide) (by decide)⟩⟩
  · exact retN X1 hx (t := .boolean) Bd.returns (by simp) (hb hby d47_12) hr
  · show Qrhn_0 Z it h0 n0 _ T1.heap _
    rw [e1]
    exact ⟨rfl, N0, rfl⟩
theorem d50_0 : decode jdk_2736_method_2_code 0 = .ok (.aload_n 0, 1) := by decide +kernel
theorem d50_1 : decode jdk_2736_method_2_code 1 = .ok (.getfield 15, 3) := by decide +kernel
theorem d50_4 : decode jdk_2736_method_2_code 4 = .ok (.areturn, 1) := by decide +kernel
theorem pn_50 : plainName "java/util/TreeMap$Entry" = true := by first | (simp [plainName, overriddenIn]; done) | decide +kernel
theorem ef_rm50 (m : MethodId) (x0 : Addr) : entryFrame m #[(.ref x0)] 1 = mkF m 0 #[.val (.ref x0)] [] := by first | (simp [entryFrame, mkF, argsToLocals, Value.category]; done) | rfl
def Qrm50 (Z : State) (ar : Addr) (ak : Addr) (h0 : Heap) (n0 : Nat) (v : Option Value) (h : Heap) (L : List Loc) : Prop := (v = some (.ref ak)) ∧ (Fr n0 L) ∧ (h = h0)
set_option maxRecDepth 65536 in
set_option maxHeartbeats 40000000 in
theorem rm50 (l : Launch) (Z : State) (a0 : Array Value) (hw : ∀ d ∈ tables_1, d.before a0 Z = true) (ws : List Jvm.Cond) (ar : Addr) (ak : Addr) (h0 : Heap) (n0 : Nat) (Z0 : n0 ≤ h0.size) (pr1 : Fld Z h0 ar oS1 "key" oS8 (.ref ak)) :
    MetFree l oM33 (head1 (Jvm.Cond.code oM33 jdk_2736_method_2_code 1 (some (.object oS16)) :: ws) ({ frames := 0, cells := 0, slots := 0, locals := 0 } : Room)) (fun a U => a = #[(.ref ar)] ∧ Z.Warmed39 U.vm ∧ U.heap = h0) (fun _ _ _ _ _ => True) (fun _ U o U' => ∃ v L, o = .returned v ∧ Qrm50 Z ar ak h0 n0 v U'.heap L ∧ FrameEnd U o U' L ({ frames := 0, cells := 0, slots := 0, locals := 0 } : Room).cells ({ frames := 0, cells := 0, slots := 0, locals := 0 } : Room).slots) := by
  refine MetFree.of_bodySF (plainFor_of_name pn_50) hisR ?_
  intro p e s m args below meth c s₁ Bd hml0 hP0 hK
  obtain ⟨rfl, hZ, hh⟩ := hP0
  have hx := Bd.exec
  have hby := Bd.bytes
  have hml : c.maxLocals = 1 := hml0
  have hown : s.vm.findClass oS1 = some m.cls := findClass_of_methodNamed Bd.named
  have hnm := (name_of_methodNamed Bd.named Bd.method).1
  have X0 : Stand p l e ({ frames := 0, cells := 0, slots := 0, locals := 0 } : Room) s m #[(.ref ar)] below meth c s₁ [] 0 0 := Stand.of_body Bd
  have e0 : s₁.heap = h0 := by rw [← hh, Bd.state]; rfl
  have N0 := Fr.nil n0
  refine own_fin (st' := s₁.setTop (mkF m 0 #[oR ar] [])) (fun _ k => castTop (ef_rm50 m ar) k) (fun P hP => ?_)
  have lt_ar : @LT.lt Nat _ ar h0.size := pr1.lt
  refine own_go (st' := s₁.setTop (mkF m 1 #[oR ar] [(.ref ar)])) (fun _ k => XS.aloadN X0.here hx rfl (hb hby d50_0) rfl rfl k) ?_
  obtain ⟨T1, X1, e1, st1⟩ := getF X0 hx hZ hown (host := "") (Or.inl (own_hw hw 182)) Via.refl e0 pr1 (g := (mkF m 1 #[oR ar] [(.ref ar)])) rfl rfl (hb hby d50_1)
  refine own_go (st' := T1.setTop (mkF m 4 #[oR ar] [(.ref ak)])) (st1) ?_
  obtain ⟨fs, hr, hrun, hended, hW, hsame⟩ := X1.leave (v := some (.ref ak)) (fun h => by rw [Bd.returns] at h; cases h)
  refine ⟨_, _, ?_, hP _ _ hrun hended ⟨_, _, rfl, ?_, ⟨_, rfl⟩, hW, hsame.mono (by decide) (by decide)⟩⟩
  · exact retOut X1 hx Bd.returns rfl (Or.inr (Or.inr (Or.inr (Or.inr ⟨rfl, rfl, rfl⟩)))) (hb hby d50_4) hr
  · show Qrm50 Z ar ak h0 n0 _ T1.heap _
    rw [e1]
    exact ⟨rfl, N0, rfl⟩
theorem d51_0 : decode jdk_2736_method_3_code 0 = .ok (.aload_n 0, 1) := by decide +kernel
theorem d51_1 : decode jdk_2736_method_3_code 1 = .ok (.getfield 19, 3) := by decide +kernel
theorem d51_4 : decode jdk_2736_method_3_code 4 = .ok (.areturn, 1) := by decide +kernel
theorem pn_51 : plainName "java/util/TreeMap$Entry" = true := by first | (simp [plainName, overriddenIn]; done) | decide +kernel
theorem ef_rm51 (m : MethodId) (x0 : Addr) : entryFrame m #[(.ref x0)] 1 = mkF m 0 #[.val (.ref x0)] [] := by first | (simp [entryFrame, mkF, argsToLocals, Value.category]; done) | rfl
def Qrm51 (Z : State) (ar : Addr) (ak : Addr) (h0 : Heap) (n0 : Nat) (v : Option Value) (h : Heap) (L : List Loc) : Prop := (v = some (.ref ak)) ∧ (Fr n0 L) ∧ (h = h0)
set_option maxRecDepth 65536 in
set_option maxHeartbeats 40000000 in
theorem rm51 (l : Launch) (Z : State) (a0 : Array Value) (hw : ∀ d ∈ tables_1, d.before a0 Z = true) (ws : List Jvm.Cond) (ar : Addr) (ak : Addr) (h0 : Heap) (n0 : Nat) (Z0 : n0 ≤ h0.size) (pr1 : Fld Z h0 ar oS1 "value" oS8 (.ref ak)) :
    MetFree l oM34 (head1 (Jvm.Cond.code oM34 jdk_2736_method_3_code 1 (some (.object oS16)) :: ws) ({ frames := 0, cells := 0, slots := 0, locals := 0 } : Room)) (fun a U => a = #[(.ref ar)] ∧ Z.Warmed39 U.vm ∧ U.heap = h0) (fun _ _ _ _ _ => True) (fun _ U o U' => ∃ v L, o = .returned v ∧ Qrm51 Z ar ak h0 n0 v U'.heap L ∧ FrameEnd U o U' L ({ frames := 0, cells := 0, slots := 0, locals := 0 } : Room).cells ({ frames := 0, cells := 0, slots := 0, locals := 0 } : Room).slots) := by
  refine MetFree.of_bodySF (plainFor_of_name pn_51) hisR ?_
  intro p e s m args below meth c s₁ Bd hml0 hP0 hK
  obtain ⟨rfl, hZ, hh⟩ := hP0
  have hx := Bd.exec
  have hby := Bd.bytes
  have hml : c.maxLocals = 1 := hml0
  have hown : s.vm.findClass oS1 = some m.cls := findClass_of_methodNamed Bd.named
  have hnm := (name_of_methodNamed Bd.named Bd.method).1
  have X0 : Stand p l e ({ frames := 0, cells := 0, slots := 0, locals := 0 } : Room) s m #[(.ref ar)] below meth c s₁ [] 0 0 := Stand.of_body Bd
  have e0 : s₁.heap = h0 := by rw [← hh, Bd.state]; rfl
  have N0 := Fr.nil n0
  refine own_fin (st' := s₁.setTop (mkF m 0 #[oR ar] [])) (fun _ k => castTop (ef_rm51 m ar) k) (fun P hP => ?_)
  have lt_ar : @LT.lt Nat _ ar h0.size := pr1.lt
  refine own_go (st' := s₁.setTop (mkF m 1 #[oR ar] [(.ref ar)])) (fun _ k => XS.aloadN X0.here hx rfl (hb hby d51_0) rfl rfl k) ?_
  obtain ⟨T1, X1, e1, st1⟩ := getF X0 hx hZ hown (host := "") (Or.inl (own_hw hw 184)) Via.refl e0 pr1 (g := (mkF m 1 #[oR ar] [(.ref ar)])) rfl rfl (hb hby d51_1)
  refine own_go (st' := T1.setTop (mkF m 4 #[oR ar] [(.ref ak)])) (st1) ?_
  obtain ⟨fs, hr, hrun, hended, hW, hsame⟩ := X1.leave (v := some (.ref ak)) (fun h => by rw [Bd.returns] at h; cases h)
  refine ⟨_, _, ?_, hP _ _ hrun hended ⟨_, _, rfl, ?_, ⟨_, rfl⟩, hW, hsame.mono (by decide) (by decide)⟩⟩
  · exact retOut X1 hx Bd.returns rfl (Or.inr (Or.inr (Or.inr (Or.inr ⟨rfl, rfl, rfl⟩)))) (hb hby d51_4) hr
  · show Qrm51 Z ar ak h0 n0 _ T1.heap _
    rw [e1]
    exact ⟨rfl, N0, rfl⟩
theorem d54_0 : decode jdk_29_method_61_code 0 = .ok (.lload_n 0, 1) := by decide +kernel
theorem d54_1 : decode jdk_29_method_61_code 1 = .ok (.lconst 0, 1) := by decide +kernel
theorem d54_2 : decode jdk_29_method_61_code 2 = .ok (.lcmp, 1) := by decide +kernel
theorem d54_3 : decode jdk_29_method_61_code 3 = .ok (.ifCond .ge 8, 3) := by decide +kernel
theorem d54_11 : decode jdk_29_method_61_code 11 = .ok (.lload_n 0, 1) := by decide +kernel
theorem d54_12 : decode jdk_29_method_61_code 12 = .ok (.lreturn, 1) := by decide +kernel
theorem pn_54 : plainFor (⟨"java/lang/Math", "abs", "(J)J"⟩ : MethodName) = true := by decide +kernel
theorem ef_rm54 (m : MethodId) (x0 : Int64) : entryFrame m #[(.long x0)] 2 = mkF m 0 #[.val (.long x0), .second] [] := by first | (simp [entryFrame, mkF, argsToLocals, Value.category]; done) | rfl
def Qrm54 (Z : State) (q1 : Int64) (h0 : Heap) (n0 : Nat) (v : Option Value) (h : Heap) (L : List Loc) : Prop := (v = some (.long q1)) ∧ (Fr n0 L) ∧ (h = h0)
set_option maxRecDepth 65536 in
set_option maxHeartbeats 40000000 in
theorem rm54 (l : Launch) (Z : State) (a0 : Array Value) (hw : ∀ d ∈ tables_1, d.before a0 Z = true) (ws : List Jvm.Cond) (q1 : Int64) (h0 : Heap) (n0 : Nat) (Z0 : n0 ≤ h0.size) (hq1 : own_nn q1) :
    MetFree l oM35 (head1 (Jvm.Cond.code oM35 jdk_29_method_61_code 2 (some .long) :: ws) ({ frames := 0, cells := 0, slots := 0, locals := 0 } : Room)) (fun a U => a = #[(.long q1)] ∧ Z.Warmed39 U.vm ∧ U.heap = h0) (fun _ _ _ _ _ => True) (fun _ U o U' => ∃ v L, o = .returned v ∧ Qrm54 Z q1 h0 n0 v U'.heap L ∧ FrameEnd U o U' L ({ frames := 0, cells := 0, slots := 0, locals := 0 } : Room).cells ({ frames := 0, cells := 0, slots := 0, locals := 0 } : Room).slots) := by
  refine MetFree.of_bodySF pn_54 hisR ?_
  intro p e s m args below meth c s₁ Bd hml0 hP0 hK
  obtain ⟨rfl, hZ, hh⟩ := hP0
  have hx := Bd.exec
  have hby := Bd.bytes
  have hml : c.maxLocals = 2 := hml0
  have hown : s.vm.findClass "java/lang/Math" = some m.cls := findClass_of_methodNamed Bd.named
  have hnm := (name_of_methodNamed Bd.named Bd.method).1
  have X0 : Stand p l e ({ frames := 0, cells := 0, slots := 0, locals := 0 } : Room) s m #[(.long q1)] below meth c s₁ [] 0 0 := Stand.of_body Bd
  have e0 : s₁.heap = h0 := by rw [← hh, Bd.state]; rfl
  have N0 := Fr.nil n0
  refine own_fin (st' := s₁.setTop (mkF m 0 #[oj q1, .second] [])) (fun _ k => castTop (ef_rm54 m q1) k) (fun P hP => ?_)
  refine own_go (st' := s₁.setTop (mkF m 1 #[oj q1, .second] [(.long q1)])) (fun _ k => XS.lloadN X0.here hx rfl (hb hby d54_0) rfl k) ?_
  refine own_go (st' := s₁.setTop (mkF m 2 #[oj q1, .second] [(.long (0 : Int64)), (.long q1)])) (fun _ k => XS.lconst X0.here hx rfl (hb hby d54_1) k) ?_
  refine own_go (st' := s₁.setTop (mkF m 3 #[oj q1, .second] [(.int (lcmpW q1 (0 : Int64)))])) (fun _ k => XS.lcmp X0.here hx rfl (hb hby d54_2) rfl k) ?_
  have hc1 : ¬ (q1 < (0 : Int64)) := (own_nn_lt hq1)
  refine own_go (st' := s₁.setTop (mkF m 11 #[oj q1, .second] [])) (fun _ k => XS.ifYes X0.here hx rfl (pc0 := 3) (pc' := 11) rfl (hb hby d54_3) rfl ((if0 _ _).trans (flt (fun q_ => hc1 ((lw_lt q1 (0 : Int64)).mp q_))).2.1) (by decide) (by decide) k) ?_
  refine own_go (st' := s₁.setTop (mkF m 12 #[oj q1, .second] [(.long q1)])) (fun _ k => XS.lloadN X0.here hx rfl (hb hby d54_11) rfl k) ?_
  obtain ⟨fs, hr, hrun, hended, hW, hsame⟩ := X0.leave (v := some (.long q1)) (fun h => by rw [Bd.returns] at h; cases h)
  refine ⟨_, _, ?_, hP _ _ hrun hended ⟨_, _, rfl, ?_, ⟨_, rfl⟩, hW, hsame.mono (by decide) (by decide)⟩⟩
  · exact retOut X0 hx Bd.returns rfl (Or.inr (Or.inl ⟨rfl, rfl, _, rfl⟩)) (hb hby d54_12) hr
  · show Qrm54 Z q1 h0 n0 _ s₁.heap _
    rw [e0]
    exact ⟨rfl, N0, rfl⟩
theorem d52_0 : decode jdk_29_method_25_code 0 = .ok (.lload_n 0, 1) := by decide +kernel
theorem d52_1 : decode jdk_29_method_25_code 1 = .ok (.lload_n 2, 1) := by decide +kernel
theorem d52_2 : decode jdk_29_method_25_code 2 = .ok (.ladd, 1) := by decide +kernel
theorem d52_3 : decode jdk_29_method_25_code 3 = .ok (.lstore 4, 2) := by decide +kernel
theorem d52_5 : decode jdk_29_method_25_code 5 = .ok (.lload_n 0, 1) := by decide +kernel
theorem d52_6 : decode jdk_29_method_25_code 6 = .ok (.lload 4, 2) := by decide +kernel
theorem d52_8 : decode jdk_29_method_25_code 8 = .ok (.lxor, 1) := by decide +kernel
theorem d52_9 : decode jdk_29_method_25_code 9 = .ok (.lload_n 2, 1) := by decide +kernel
theorem d52_10 : decode jdk_29_method_25_code 10 = .ok (.lload 4, 2) := by decide +kernel
theorem d52_12 : decode jdk_29_method_25_code 12 = .ok (.lxor, 1) := by decide +kernel
theorem d52_13 : decode jdk_29_method_25_code 13 = .ok (.land, 1) := by decide +kernel
theorem d52_14 : decode jdk_29_method_25_code 14 = .ok (.lconst 0, 1) := by decide +kernel
theorem d52_15 : decode jdk_29_method_25_code 15 = .ok (.lcmp, 1) := by decide +kernel
theorem d52_16 : decode jdk_29_method_25_code 16 = .ok (.ifCond .ge 13, 3) := by decide +kernel
theorem d52_29 : decode jdk_29_method_25_code 29 = .ok (.lload 4, 2) := by decide +kernel
theorem d52_31 : decode jdk_29_method_25_code 31 = .ok (.lreturn, 1) := by decide +kernel
theorem pn_52 : plainFor (⟨"java/lang/Math", "addExact", "(JJ)J"⟩ : MethodName) = true := by decide +kernel
theorem ef_rm52 (m : MethodId) (x0 : Int64) (x1 : Int64) : entryFrame m #[(.long x0), (.long x1)] 6 = mkF m 0 #[.val (.long x0), .second, .val (.long x1), .second, .unset, .unset] [] := by first | (simp [entryFrame, mkF, argsToLocals, Value.category]; done) | rfl
def Qrm52 (Z : State) (q1 : Int64) (h0 : Heap) (n0 : Nat) (v : Option Value) (h : Heap) (L : List Loc) : Prop := (v = some (.long ((0 : Int64) + q1))) ∧ (Fr n0 L) ∧ (h = h0)
set_option maxRecDepth 65536 in
set_option maxHeartbeats 40000000 in
theorem rm52 (l : Launch) (Z : State) (a0 : Array Value) (hw : ∀ d ∈ tables_1, d.before a0 Z = true) (ws : List Jvm.Cond) (q1 : Int64) (h0 : Heap) (n0 : Nat) (Z0 : n0 ≤ h0.size) (hq1 : own_nn q1) :
    MetFree l oM36 (head1 (Jvm.Cond.code oM36 jdk_29_method_25_code 6 (some .long) :: ws) ({ frames := 0, cells := 0, slots := 0, locals := 0 } : Room)) (fun a U => a = #[(.long (0 : Int64)), (.long q1)] ∧ Z.Warmed39 U.vm ∧ U.heap = h0) (fun _ _ _ _ _ => True) (fun _ U o U' => ∃ v L, o = .returned v ∧ Qrm52 Z q1 h0 n0 v U'.heap L ∧ FrameEnd U o U' L ({ frames := 0, cells := 0, slots := 0, locals := 0 } : Room).cells ({ frames := 0, cells := 0, slots := 0, locals := 0 } : Room).slots) := by
  refine MetFree.of_bodySF pn_52 hisR ?_
  intro p e s m args below meth c s₁ Bd hml0 hP0 hK
  obtain ⟨rfl, hZ, hh⟩ := hP0
  have hx := Bd.exec
  have hby := Bd.bytes
  have hml : c.maxLocals = 6 := hml0
  have hown : s.vm.findClass "java/lang/Math" = some m.cls := findClass_of_methodNamed Bd.named
  have hnm := (name_of_methodNamed Bd.named Bd.method).1
  have X0 : Stand p l e ({ frames := 0, cells := 0, slots := 0, locals := 0 } : Room) s m #[(.long (0 : Int64)), (.long q1)] below meth c s₁ [] 0 0 := Stand.of_body Bd
  have e0 : s₁.heap = h0 := by rw [← hh, Bd.state]; rfl
  have N0 := Fr.nil n0
  refine own_fin (st' := s₁.setTop (mkF m 0 #[.val (.long (0 : Int64)), .second, oj q1, .second, .unset, .unset] [])) (fun _ k => castTop (ef_rm52 m (0 : Int64) q1) k) (fun P hP => ?_)
  refine own_go (st' := s₁.setTop (mkF m 1 #[.val (.long (0 : Int64)), .second, oj q1, .second, .unset, .unset] [(.long (0 : Int64))])) (fun _ k => XS.lloadN X0.here hx rfl (hb hby d52_0) rfl k) ?_
  refine own_go (st' := s₁.setTop (mkF m 2 #[.val (.long (0 : Int64)), .second, oj q1, .second, .unset, .unset] [(.long q1), (.long (0 : Int64))])) (fun _ k => XS.lloadN X0.here hx rfl (hb hby d52_1) rfl k) ?_
  refine own_go (st' := s₁.setTop (mkF m 3 #[.val (.long (0 : Int64)), .second, oj q1, .second, .unset, .unset] [(.long ((0 : Int64) + q1))])) (fun _ k => XS.ladd X0.here hx rfl (hb hby d52_2) rfl k) ?_
  refine own_go (st' := s₁.setTop (mkF m 5 #[.val (.long (0 : Int64)), .second, oj q1, .second, .val (.long ((0 : Int64) + q1)), .second] [])) (fun _ k => XS.lstore X0.here hx rfl (hb hby d52_3) rfl (l' := #[.val (.long (0 : Int64)), .second, oj q1, .second, .val (.long ((0 : Int64) + q1)), .second]) rfl k) ?_
  refine own_go (st' := s₁.setTop (mkF m 6 #[.val (.long (0 : Int64)), .second, oj q1, .second, .val (.long ((0 : Int64) + q1)), .second] [(.long (0 : Int64))])) (fun _ k => XS.lloadN X0.here hx rfl (hb hby d52_5) rfl k) ?_
  refine own_go (st' := s₁.setTop (mkF m 8 #[.val (.long (0 : Int64)), .second, oj q1, .second, .val (.long ((0 : Int64) + q1)), .second] [(.long ((0 : Int64) + q1)), (.long (0 : Int64))])) (fun _ k => XS.lload X0.here hx rfl (hb hby d52_6) rfl k) ?_
  refine own_go (st' := s₁.setTop (mkF m 9 #[.val (.long (0 : Int64)), .second, oj q1, .second, .val (.long ((0 : Int64) + q1)), .second] [(.long ((0 : Int64) ^^^ ((0 : Int64) + q1)))])) (fun _ k => XS.lxor X0.here hx rfl (hb hby d52_8) rfl k) ?_
  refine own_go (st' := s₁.setTop (mkF m 10 #[.val (.long (0 : Int64)), .second, oj q1, .second, .val (.long ((0 : Int64) + q1)), .second] [(.long q1), (.long ((0 : Int64) ^^^ ((0 : Int64) + q1)))])) (fun _ k => XS.lloadN X0.here hx rfl (hb hby d52_9) rfl k) ?_
  refine own_go (st' := s₁.setTop (mkF m 12 #[.val (.long (0 : Int64)), .second, oj q1, .second, .val (.long ((0 : Int64) + q1)), .second] [(.long ((0 : Int64) + q1)), (.long q1), (.long ((0 : Int64) ^^^ ((0 : Int64) + q1)))])) (fun _ k => XS.lload X0.here hx rfl (hb hby d52_10) rfl k) ?_
  refine own_go (st' := s₁.setTop (mkF m 13 #[.val (.long (0 : Int64)), .second, oj q1, .second, .val (.long ((0 : Int64) + q1)), .second] [(.long (q1 ^^^ ((0 : Int64) + q1))), (.long ((0 : Int64) ^^^ ((0 : Int64) + q1)))])) (fun _ k => XS.lxor X0.here hx rfl (hb hby d52_12) rfl k) ?_
  refine own_go (st' := s₁.setTop (mkF m 14 #[.val (.long (0 : Int64)), .second, oj q1, .second, .val (.long ((0 : Int64) + q1)), .second] [(.long (((0 : Int64) ^^^ ((0 : Int64) + q1)) &&& (q1 ^^^ ((0 : Int64) + q1))))])) (fun _ k => XS.land X0.here hx rfl (hb hby d52_13) rfl k) ?_
  refine own_go (st' := s₁.setTop (mkF m 15 #[.val (.long (0 : Int64)), .second, oj q1, .second, .val (.long ((0 : Int64) + q1)), .second] [(.long (0 : Int64)), (.long (((0 : Int64) ^^^ ((0 : Int64) + q1)) &&& (q1 ^^^ ((0 : Int64) + q1))))])) (fun _ k => XS.lconst X0.here hx rfl (hb hby d52_14) k) ?_
  refine own_go (st' := s₁.setTop (mkF m 16 #[.val (.long (0 : Int64)), .second, oj q1, .second, .val (.long ((0 : Int64) + q1)), .second] [(.int (lcmpW (((0 : Int64) ^^^ ((0 : Int64) + q1)) &&& (q1 ^^^ ((0 : Int64) + q1))) (0 : Int64)))])) (fun _ k => XS.lcmp X0.here hx rfl (hb hby d52_15) rfl k) ?_
  have hc1 : ¬ ((((0 : Int64) ^^^ ((0 : Int64) + q1)) &&& (q1 ^^^ ((0 : Int64) + q1))) < (0 : Int64)) := (own_add0 q1 hq1)
  refine own_go (st' := s₁.setTop (mkF m 29 #[.val (.long (0 : Int64)), .second, oj q1, .second, .val (.long ((0 : Int64) + q1)), .second] [])) (fun _ k => XS.ifYes X0.here hx rfl (pc0 := 16) (pc' := 29) rfl (hb hby d52_16) rfl ((if0 _ _).trans (flt (fun q_ => hc1 ((lw_lt (((0 : Int64) ^^^ ((0 : Int64) + q1)) &&& (q1 ^^^ ((0 : Int64) + q1))) (0 : Int64)).mp q_))).2.1) (by decide) (by decide) k) ?_
  refine own_go (st' := s₁.setTop (mkF m 31 #[.val (.long (0 : Int64)), .second, oj q1, .second, .val (.long ((0 : Int64) + q1)), .second] [(.long ((0 : Int64) + q1))])) (fun _ k => XS.lload X0.here hx rfl (hb hby d52_29) rfl k) ?_
  obtain ⟨fs, hr, hrun, hended, hW, hsame⟩ := X0.leave (v := some (.long ((0 : Int64) + q1))) (fun h => by rw [Bd.returns] at h; cases h)
  refine ⟨_, _, ?_, hP _ _ hrun hended ⟨_, _, rfl, ?_, ⟨_, rfl⟩, hW, hsame.mono (by decide) (by decide)⟩⟩
  · exact retOut X0 hx Bd.returns rfl (Or.inr (Or.inl ⟨rfl, rfl, _, rfl⟩)) (hb hby d52_31) hr
  · show Qrm52 Z q1 h0 n0 _ s₁.heap _
    rw [e0]
    exact ⟨rfl, N0, rfl⟩
theorem pd_27 : parseMethodDescriptor "(J)J" = some ⟨[.long], some .long⟩ := by decide +kernel
theorem d53_0 : decode jdk_29_method_30_code 0 = .ok (.lload_n 0, 1) := by decide +kernel
theorem d53_1 : decode jdk_29_method_30_code 1 = .ok (.lload_n 2, 1) := by decide +kernel
theorem d53_2 : decode jdk_29_method_30_code 2 = .ok (.lmul, 1) := by decide +kernel
theorem d53_3 : decode jdk_29_method_30_code 3 = .ok (.lstore 4, 2) := by decide +kernel
theorem d53_5 : decode jdk_29_method_30_code 5 = .ok (.lload_n 0, 1) := by decide +kernel
theorem d53_6 : decode jdk_29_method_30_code 6 = .ok (.invokestatic 122, 3) := by decide +kernel
theorem d53_9 : decode jdk_29_method_30_code 9 = .ok (.lstore 6, 2) := by decide +kernel
theorem d53_11 : decode jdk_29_method_30_code 11 = .ok (.lload_n 2, 1) := by decide +kernel
theorem d53_12 : decode jdk_29_method_30_code 12 = .ok (.invokestatic 122, 3) := by decide +kernel
theorem d53_15 : decode jdk_29_method_30_code 15 = .ok (.lstore 8, 2) := by decide +kernel
theorem d53_17 : decode jdk_29_method_30_code 17 = .ok (.lload 6, 2) := by decide +kernel
theorem d53_19 : decode jdk_29_method_30_code 19 = .ok (.lload 8, 2) := by decide +kernel
theorem d53_21 : decode jdk_29_method_30_code 21 = .ok (.lor, 1) := by decide +kernel
theorem d53_22 : decode jdk_29_method_30_code 22 = .ok (.bipush 31, 2) := by decide +kernel
theorem d53_24 : decode jdk_29_method_30_code 24 = .ok (.lushr, 1) := by decide +kernel
theorem d53_25 : decode jdk_29_method_30_code 25 = .ok (.lconst 0, 1) := by decide +kernel
theorem d53_26 : decode jdk_29_method_30_code 26 = .ok (.lcmp, 1) := by decide +kernel
theorem d53_27 : decode jdk_29_method_30_code 27 = .ok (.ifCond .eq 44, 3) := by decide +kernel
theorem d53_30 : decode jdk_29_method_30_code 30 = .ok (.lload_n 2, 1) := by decide +kernel
theorem d53_31 : decode jdk_29_method_30_code 31 = .ok (.lconst 0, 1) := by decide +kernel
theorem d53_32 : decode jdk_29_method_30_code 32 = .ok (.lcmp, 1) := by decide +kernel
theorem d53_33 : decode jdk_29_method_30_code 33 = .ok (.ifCond .eq 12, 3) := by decide +kernel
theorem d53_36 : decode jdk_29_method_30_code 36 = .ok (.lload 4, 2) := by decide +kernel
theorem d53_38 : decode jdk_29_method_30_code 38 = .ok (.lload_n 2, 1) := by decide +kernel
theorem d53_39 : decode jdk_29_method_30_code 39 = .ok (.ldiv, 1) := by decide +kernel
theorem d53_40 : decode jdk_29_method_30_code 40 = .ok (.lload_n 0, 1) := by decide +kernel
theorem d53_41 : decode jdk_29_method_30_code 41 = .ok (.lcmp, 1) := by decide +kernel
theorem d53_42 : decode jdk_29_method_30_code 42 = .ok (.ifCond .ne 19, 3) := by decide +kernel
theorem d53_45 : decode jdk_29_method_30_code 45 = .ok (.lload_n 0, 1) := by decide +kernel
theorem d53_46 : decode jdk_29_method_30_code 46 = .ok (.ldc2_w 128, 3) := by decide +kernel
theorem d53_49 : decode jdk_29_method_30_code 49 = .ok (.lcmp, 1) := by decide +kernel
theorem d53_50 : decode jdk_29_method_30_code 50 = .ok (.ifCond .ne 21, 3) := by decide +kernel
theorem d53_71 : decode jdk_29_method_30_code 71 = .ok (.lload 4, 2) := by decide +kernel
theorem d53_73 : decode jdk_29_method_30_code 73 = .ok (.lreturn, 1) := by decide +kernel
theorem pn_53 : plainFor (⟨"java/lang/Math", "multiplyExact", "(JJ)J"⟩ : MethodName) = true := by decide +kernel
theorem ef_rm53 (m : MethodId) (x0 : Int64) (x1 : Int64) : entryFrame m #[(.long x0), (.long x1)] 10 = mkF m 0 #[.val (.long x0), .second, .val (.long x1), .second, .unset, .unset, .unset, .unset, .unset, .unset] [] := by first | (simp [entryFrame, mkF, argsToLocals, Value.category]; done) | rfl
def Qrm53 (Z : State) (q1 : Int64) (q2 : Int64) (h0 : Heap) (n0 : Nat) (v : Option Value) (h : Heap) (L : List Loc) : Prop := (v = some (.long (q1 * q2))) ∧ (Fr n0 L) ∧ (h = h0)
set_option maxRecDepth 65536 in
set_option maxHeartbeats 40000000 in
theorem rm53 (l : Launch) (Z : State) (a0 : Array Value) (hw : ∀ d ∈ tables_1, d.before a0 Z = true) (ws : List Jvm.Cond) (q1 : Int64) (q2 : Int64) (h0 : Heap) (n0 : Nat) (Z0 : n0 ≤ h0.size) (hq1 : own_nn q1) (hq2 : own_nn q2) (hpr : own_pr q1 q2) :
    MetFree l oM37 (head1 (Jvm.Cond.code oM37 jdk_29_method_30_code 10 (some .long) :: ws) ({ frames := 1, cells := 0, slots := 0, locals := 13 } : Room)) (fun a U => a = #[(.long q1), (.long q2)] ∧ Z.Warmed39 U.vm ∧ U.heap = h0) (fun _ _ _ _ _ => True) (fun _ U o U' => ∃ v L, o = .returned v ∧ Qrm53 Z q1 q2 h0 n0 v U'.heap L ∧ FrameEnd U o U' L ({ frames := 1, cells := 0, slots := 0, locals := 13 } : Room).cells ({ frames := 1, cells := 0, slots := 0, locals := 13 } : Room).slots) := by
  refine MetFree.of_bodySF pn_53 hisR ?_
  intro p e s m args below meth c s₁ Bd hml0 hP0 hK
  obtain ⟨rfl, hZ, hh⟩ := hP0
  have hx := Bd.exec
  have hby := Bd.bytes
  have hml : c.maxLocals = 10 := hml0
  have hown : s.vm.findClass "java/lang/Math" = some m.cls := findClass_of_methodNamed Bd.named
  have hnm := (name_of_methodNamed Bd.named Bd.method).1
  have X0 : Stand p l e ({ frames := 1, cells := 0, slots := 0, locals := 13 } : Room) s m #[(.long q1), (.long q2)] below meth c s₁ [] 0 0 := Stand.of_body Bd
  have e0 : s₁.heap = h0 := by rw [← hh, Bd.state]; rfl
  have N0 := Fr.nil n0
  refine own_fin (st' := s₁.setTop (mkF m 0 #[oj q1, .second, oj q2, .second, .unset, .unset, .unset, .unset, .unset, .unset] [])) (fun _ k => castTop (ef_rm53 m q1 q2) k) (fun P hP => ?_)
  refine own_go (st' := s₁.setTop (mkF m 1 #[oj q1, .second, oj q2, .second, .unset, .unset, .unset, .unset, .unset, .unset] [(.long q1)])) (fun _ k => XS.lloadN X0.here hx rfl (hb hby d53_0) rfl k) ?_
  refine own_go (st' := s₁.setTop (mkF m 2 #[oj q1, .second, oj q2, .second, .unset, .unset, .unset, .unset, .unset, .unset] [(.long q2), (.long q1)])) (fun _ k => XS.lloadN X0.here hx rfl (hb hby d53_1) rfl k) ?_
  refine own_go (st' := s₁.setTop (mkF m 3 #[oj q1, .second, oj q2, .second, .unset, .unset, .unset, .unset, .unset, .unset] [(.long (q1 * q2))])) (fun _ k => XS.lmul X0.here hx rfl (hb hby d53_2) rfl k) ?_
  refine own_go (st' := s₁.setTop (mkF m 5 #[oj q1, .second, oj q2, .second, .val (.long (q1 * q2)), .second, .unset, .unset, .unset, .unset] [])) (fun _ k => XS.lstore X0.here hx rfl (hb hby d53_3) rfl (l' := #[oj q1, .second, oj q2, .second, .val (.long (q1 * q2)), .second, .unset, .unset, .unset, .unset]) rfl k) ?_
  refine own_go (st' := s₁.setTop (mkF m 6 #[oj q1, .second, oj q2, .second, .val (.long (q1 * q2)), .second, .unset, .unset, .unset, .unset] [(.long q1)])) (fun _ k => XS.lloadN X0.here hx rfl (hb hby d53_5) rfl k) ?_
  obtain ⟨_, _, ⟨T1, LC1, kC1, nC1⟩, -, X1, ⟨Lc1, hQ1, lq1, yq1, zq1⟩, st1⟩ := Jvm.LawKit.callS X0 hx (y := oM35) hown (mvT hZ (own_hw hw 413)) (mvT hZ (own_hw hw 414)) (mvT hZ (own_hw hw 408)) (mvT hZ (own_hw hw 415)) (by decide) (backOf (W := 0) (rm54 l Z a0 hw [] q1 h0 n0 (by omega) (by assumption)) hZ (own_hw hw 415) (own_hw hw 408) (by decide) (by decide)) (g := (mkF m 6 #[oj q1, .second, oj q2, .second, .val (.long (q1 * q2)), .second, .unset, .unset, .unset, .unset] [(.long q1)])) rfl (by rw [hml]; rfl) (argsL := [(.long q1)]) (rest := []) (lenOf pd_27 rfl) rfl (by show 2 * 0 + _ ≤ _; exact Nat.le_of_eq rfl) (hb hby d53_6) (fun _ _ => ⟨rfl, e0, (by decide : 0 + 0 ≤ _), (by decide : 0 + 0 ≤ _)⟩)
  dsimp only [Pt.U, Pt.locs, Pt.cells, Pt.slots] at X1 lq1 yq1 zq1 st1 hQ1
  subst lq1 yq1 zq1
  obtain ⟨rfl, Nq1, eq1⟩ := hQ1
  have N1 := Fr.app N0 Nq1
  refine own_go (st' := T1.setTop (mkF m 9 #[oj q1, .second, oj q2, .second, .val (.long (q1 * q2)), .second, .unset, .unset, .unset, .unset] [(.long q1)])) (fun t k => st1 t k) ?_
  refine own_go (st' := T1.setTop (mkF m 11 #[oj q1, .second, oj q2, .second, .val (.long (q1 * q2)), .second, oj q1, .second, .unset, .unset] [])) (fun _ k => XS.lstore X1.here hx rfl (hb hby d53_9) rfl (l' := #[oj q1, .second, oj q2, .second, .val (.long (q1 * q2)), .second, oj q1, .second, .unset, .unset]) rfl k) ?_
  refine own_go (st' := T1.setTop (mkF m 12 #[oj q1, .second, oj q2, .second, .val (.long (q1 * q2)), .second, oj q1, .second, .unset, .unset] [(.long q2)])) (fun _ k => XS.lloadN X1.here hx rfl (hb hby d53_11) rfl k) ?_
  obtain ⟨_, _, ⟨T2, LC2, kC2, nC2⟩, -, X2, ⟨Lc2, hQ2, lq2, yq2, zq2⟩, st2⟩ := Jvm.LawKit.callS X1 hx (y := oM35) hown (mvT hZ (own_hw hw 413)) (mvT hZ (own_hw hw 414)) (mvT hZ (own_hw hw 408)) (mvT hZ (own_hw hw 415)) (by decide) (backOf (W := 0) (rm54 l Z a0 hw [] q2 h0 n0 (by omega) (by assumption)) hZ (own_hw hw 415) (own_hw hw 408) (by decide) (by decide)) (g := (mkF m 12 #[oj q1, .second, oj q2, .second, .val (.long (q1 * q2)), .second, oj q1, .second, .unset, .unset] [(.long q2)])) rfl (by rw [hml]; rfl) (argsL := [(.long q2)]) (rest := []) (lenOf pd_27 rfl) rfl (by show 2 * 0 + _ ≤ _; exact Nat.le_of_eq rfl) (hb hby d53_12) (fun _ _ => ⟨rfl, eq1, (by decide : 0 + 0 ≤ _), (by decide : 0 + 0 ≤ _)⟩)
  dsimp only [Pt.U, Pt.locs, Pt.cells, Pt.slots] at X2 lq2 yq2 zq2 st2 hQ2
  subst lq2 yq2 zq2
  obtain ⟨rfl, Nq2, eq2⟩ := hQ2
  have N2 := Fr.app N1 Nq2
  refine own_go (st' := T2.setTop (mkF m 15 #[oj q1, .second, oj q2, .second, .val (.long (q1 * q2)), .second, oj q1, .second, .unset, .unset] [(.long q2)])) (fun t k => st2 t k) ?_
  refine own_go (st' := T2.setTop (mkF m 17 #[oj q1, .second, oj q2, .second, .val (.long (q1 * q2)), .second, oj q1, .second, oj q2, .second] [])) (fun _ k => XS.lstore X2.here hx rfl (hb hby d53_15) rfl (l' := #[oj q1, .second, oj q2, .second, .val (.long (q1 * q2)), .second, oj q1, .second, oj q2, .second]) rfl k) ?_
  refine own_go (st' := T2.setTop (mkF m 19 #[oj q1, .second, oj q2, .second, .val (.long (q1 * q2)), .second, oj q1, .second, oj q2, .second] [(.long q1)])) (fun _ k => XS.lload X2.here hx rfl (hb hby d53_17) rfl k) ?_
  refine own_go (st' := T2.setTop (mkF m 21 #[oj q1, .second, oj q2, .second, .val (.long (q1 * q2)), .second, oj q1, .second, oj q2, .second] [(.long q2), (.long q1)])) (fun _ k => XS.lload X2.here hx rfl (hb hby d53_19) rfl k) ?_
  refine own_go (st' := T2.setTop (mkF m 22 #[oj q1, .second, oj q2, .second, .val (.long (q1 * q2)), .second, oj q1, .second, oj q2, .second] [(.long (q1 ||| q2))])) (fun _ k => XS.lor X2.here hx rfl (hb hby d53_21) rfl k) ?_
  refine own_go (st' := T2.setTop (mkF m 24 #[oj q1, .second, oj q2, .second, .val (.long (q1 * q2)), .second, oj q1, .second, oj q2, .second] [(.int (31 : Int32)), (.long (q1 ||| q2))])) (fun _ k => XS.bipush X2.here hx rfl (hb hby d53_22) k) ?_
  refine own_go (st' := T2.setTop (mkF m 25 #[oj q1, .second, oj q2, .second, .val (.long (q1 * q2)), .second, oj q1, .second, oj q2, .second] [(.long (((q1 ||| q2).toUInt64 >>> ((31 : Int32) &&& 0x3f).toInt64.toUInt64).toInt64))])) (fun _ k => XS.lushr X2.here hx rfl (hb hby d53_24) rfl k) ?_
  refine own_go (st' := T2.setTop (mkF m 26 #[oj q1, .second, oj q2, .second, .val (.long (q1 * q2)), .second, oj q1, .second, oj q2, .second] [(.long (0 : Int64)), (.long (((q1 ||| q2).toUInt64 >>> ((31 : Int32) &&& 0x3f).toInt64.toUInt64).toInt64))])) (fun _ k => XS.lconst X2.here hx rfl (hb hby d53_25) k) ?_
  refine own_go (st' := T2.setTop (mkF m 27 #[oj q1, .second, oj q2, .second, .val (.long (q1 * q2)), .second, oj q1, .second, oj q2, .second] [(.int (lcmpW (((q1 ||| q2).toUInt64 >>> ((31 : Int32) &&& 0x3f).toInt64.toUInt64).toInt64) (0 : Int64)))])) (fun _ k => XS.lcmp X2.here hx rfl (hb hby d53_26) rfl k) ?_
  by_cases hc3 : (((q1 ||| q2).toUInt64 >>> ((31 : Int32) &&& 0x3f).toInt64.toUInt64).toInt64) = (0 : Int64)
  · --
    refine own_go (st' := T2.setTop (mkF m 71 #[oj q1, .second, oj q2, .second, .val (.long (q1 * q2)), .second, oj q1, .second, oj q2, .second] [])) (fun _ k => XS.ifYes X2.here hx rfl (pc0 := 27) (pc' := 71) rfl (hb hby d53_27) rfl ((if0 _ _).trans (teq ((lw_eq (((q1 ||| q2).toUInt64 >>> ((31 : Int32) &&& 0x3f).toInt64.toUInt64).toInt64) (0 : Int64)).mpr hc3)).1) (by decide) (by decide) k) ?_
    refine own_go (st' := T2.setTop (mkF m 73 #[oj q1, .second, oj q2, .second, .val (.long (q1 * q2)), .second, oj q1, .second, oj q2, .second] [(.long (q1 * q2))])) (fun _ k => XS.lload X2.here hx rfl (hb hby d53_71) rfl k) ?_
    obtain ⟨fs, hr, hrun, hended, hW, hsame⟩ := X2.leave (v := some (.long (q1 * q2))) (fun h => by rw [Bd.returns] at h; cases h)
    refine ⟨_, _, ?_, hP _ _ hrun hended ⟨_, _, rfl, ?_, ⟨_, rfl⟩, hW, hsame.mono (by decide) (by decide)⟩⟩
    · exact retOut X2 hx Bd.returns rfl (Or.inr (Or.inl ⟨rfl, rfl, _, rfl⟩)) (hb hby d53_73) hr
    · show Qrm53 Z q1 q2 h0 n0 _ T2.heap _
      rw [eq2]
      exact ⟨rfl, N2, rfl⟩
  · --
    refine own_go (st' := T2.setTop (mkF m 30 #[oj q1, .second, oj q2, .second, .val (.long (q1 * q2)), .second, oj q1, .second, oj q2, .second] [])) (fun _ k => XS.ifNo X2.here hx rfl (hb hby d53_27) rfl ((if0 _ _).trans (feq (fun q_ => hc3 ((lw_eq (((q1 ||| q2).toUInt64 >>> ((31 : Int32) &&& 0x3f).toInt64.toUInt64).toInt64) (0 : Int64)).mp q_))).1) k) ?_
    refine own_go (st' := T2.setTop (mkF m 31 #[oj q1, .second, oj q2, .second, .val (.long (q1 * q2)), .second, oj q1, .second, oj q2, .second] [(.long q2)])) (fun _ k => XS.lloadN X2.here hx rfl (hb hby d53_30) rfl k) ?_
    refine own_go (st' := T2.setTop (mkF m 32 #[oj q1, .second, oj q2, .second, .val (.long (q1 * q2)), .second, oj q1, .second, oj q2, .second] [(.long (0 : Int64)), (.long q2)])) (fun _ k => XS.lconst X2.here hx rfl (hb hby d53_31) k) ?_
    refine own_go (st' := T2.setTop (mkF m 33 #[oj q1, .second, oj q2, .second, .val (.long (q1 * q2)), .second, oj q1, .second, oj q2, .second] [(.int (lcmpW q2 (0 : Int64)))])) (fun _ k => XS.lcmp X2.here hx rfl (hb hby d53_32) rfl k) ?_
    by_cases hc5 : q2 = (0 : Int64)
    · --
      refine own_go (st' := T2.setTop (mkF m 45 #[oj q1, .second, oj q2, .second, .val (.long (q1 * q2)), .second, oj q1, .second, oj q2, .second] [])) (fun _ k => XS.ifYes X2.here hx rfl (pc0 := 33) (pc' := 45) rfl (hb hby d53_33) rfl ((if0 _ _).trans (teq ((lw_eq q2 (0 : Int64)).mpr hc5)).1) (by decide) (by decide) k) ?_
      refine own_go (st' := T2.setTop (mkF m 46 #[oj q1, .second, oj q2, .second, .val (.long (q1 * q2)), .second, oj q1, .second, oj q2, .second] [(.long q1)])) (fun _ k => XS.lloadN X2.here hx rfl (hb hby d53_45) rfl k) ?_
      refine own_go (st' := T2.setTop (mkF m 49 #[oj q1, .second, oj q2, .second, .val (.long (q1 * q2)), .second, oj q1, .second, oj q2, .second] [(.long (-9223372036854775808 : Int64)), (.long q1)])) (X2.ldc2Long hx hown (mvT hZ (own_hw hw 483)) (g := (mkF m 46 #[oj q1, .second, oj q2, .second, .val (.long (q1 * q2)), .second, oj q1, .second, oj q2, .second] [(.long q1)])) rfl (hb hby d53_46)) ?_
      refine own_go (st' := T2.setTop (mkF m 50 #[oj q1, .second, oj q2, .second, .val (.long (q1 * q2)), .second, oj q1, .second, oj q2, .second] [(.int (lcmpW q1 (-9223372036854775808 : Int64)))])) (fun _ k => XS.lcmp X2.here hx rfl (hb hby d53_49) rfl k) ?_
      have hc6 : ¬ (q1 = (-9223372036854775808 : Int64)) := (own_nn_min hq1)
      refine own_go (st' := T2.setTop (mkF m 71 #[oj q1, .second, oj q2, .second, .val (.long (q1 * q2)), .second, oj q1, .second, oj q2, .second] [])) (fun _ k => XS.ifYes X2.here hx rfl (pc0 := 50) (pc' := 71) rfl (hb hby d53_50) rfl ((if0 _ _).trans (feq (fun q_ => hc6 ((lw_eq q1 (-9223372036854775808 : Int64)).mp q_))).2) (by decide) (by decide) k) ?_
      refine own_go (st' := T2.setTop (mkF m 73 #[oj q1, .second, oj q2, .second, .val (.long (q1 * q2)), .second, oj q1, .second, oj q2, .second] [(.long (q1 * q2))])) (fun _ k => XS.lload X2.here hx rfl (hb hby d53_71) rfl k) ?_
      obtain ⟨fs, hr, hrun, hended, hW, hsame⟩ := X2.leave (v := some (.long (q1 * q2))) (fun h => by rw [Bd.returns] at h; cases h)
      refine ⟨_, _, ?_, hP _ _ hrun hended ⟨_, _, rfl, ?_, ⟨_, rfl⟩, hW, hsame.mono (by decide) (by decide)⟩⟩
      · exact retOut X2 hx Bd.returns rfl (Or.inr (Or.inl ⟨rfl, rfl, _, rfl⟩)) (hb hby d53_73) hr
      · show Qrm53 Z q1 q2 h0 n0 _ T2.heap _
        rw [eq2]
        exact ⟨rfl, N2, rfl⟩
    · --
      refine own_go (st' := T2.setTop (mkF m 36 #[oj q1, .second, oj q2, .second, .val (.long (q1 * q2)), .second, oj q1, .second, oj q2, .second] [])) (fun _ k => XS.ifNo X2.here hx rfl (hb hby d53_33) rfl ((if0 _ _).trans (feq (fun q_ => hc5 ((lw_eq q2 (0 : Int64)).mp q_))).1) k) ?_
      refine own_go (st' := T2.setTop (mkF m 38 #[oj q1, .second, oj q2, .second, .val (.long (q1 * q2)), .second, oj q1, .second, oj q2, .second] [(.long (q1 * q2))])) (fun _ k => XS.lload X2.here hx rfl (hb hby d53_36) rfl k) ?_
      refine own_go (st' := T2.setTop (mkF m 39 #[oj q1, .second, oj q2, .second, .val (.long (q1 * q2)), .second, oj q1, .second, oj q2, .second] [(.long q2), (.long (q1 * q2))])) (fun _ k => XS.lloadN X2.here hx rfl (hb hby d53_38) rfl k) ?_
      refine own_go (st' := T2.setTop (mkF m 40 #[oj q1, .second, oj q2, .second, .val (.long (q1 * q2)), .second, oj q1, .second, oj q2, .second] [(.long ((q1 * q2) / q2))])) (fun _ k => XS.ldiv X2.here hx rfl (hb hby d53_39) rfl (by assumption) k) ?_
      refine own_go (st' := T2.setTop (mkF m 41 #[oj q1, .second, oj q2, .second, .val (.long (q1 * q2)), .second, oj q1, .second, oj q2, .second] [(.long q1), (.long ((q1 * q2) / q2))])) (fun _ k => XS.lloadN X2.here hx rfl (hb hby d53_40) rfl k) ?_
      refine own_go (st' := T2.setTop (mkF m 42 #[oj q1, .second, oj q2, .second, .val (.long (q1 * q2)), .second, oj q1, .second, oj q2, .second] [(.int (lcmpW ((q1 * q2) / q2) q1))])) (fun _ k => XS.lcmp X2.here hx rfl (hb hby d53_41) rfl k) ?_
      have hc8 : ((q1 * q2) / q2) = q1 := (own_dv hq1 hq2 hpr (by assumption))
      refine own_go (st' := T2.setTop (mkF m 45 #[oj q1, .second, oj q2, .second, .val (.long (q1 * q2)), .second, oj q1, .second, oj q2, .second] [])) (fun _ k => XS.ifNo X2.here hx rfl (hb hby d53_42) rfl ((if0 _ _).trans (teq ((lw_eq ((q1 * q2) / q2) q1).mpr hc8)).2) k) ?_
      refine own_go (st' := T2.setTop (mkF m 46 #[oj q1, .second, oj q2, .second, .val (.long (q1 * q2)), .second, oj q1, .second, oj q2, .second] [(.long q1)])) (fun _ k => XS.lloadN X2.here hx rfl (hb hby d53_45) rfl k) ?_
      refine own_go (st' := T2.setTop (mkF m 49 #[oj q1, .second, oj q2, .second, .val (.long (q1 * q2)), .second, oj q1, .second, oj q2, .second] [(.long (-9223372036854775808 : Int64)), (.long q1)])) (X2.ldc2Long hx hown (mvT hZ (own_hw hw 483)) (g := (mkF m 46 #[oj q1, .second, oj q2, .second, .val (.long (q1 * q2)), .second, oj q1, .second, oj q2, .second] [(.long q1)])) rfl (hb hby d53_46)) ?_
      refine own_go (st' := T2.setTop (mkF m 50 #[oj q1, .second, oj q2, .second, .val (.long (q1 * q2)), .second, oj q1, .second, oj q2, .second] [(.int (lcmpW q1 (-9223372036854775808 : Int64)))])) (fun _ k => XS.lcmp X2.here hx rfl (hb hby d53_49) rfl k) ?_
      have hc9 : ¬ (q1 = (-9223372036854775808 : Int64)) := (own_nn_min hq1)
      refine own_go (st' := T2.setTop (mkF m 71 #[oj q1, .second, oj q2, .second, .val (.long (q1 * q2)), .second, oj q1, .second, oj q2, .second] [])) (fun _ k => XS.ifYes X2.here hx rfl (pc0 := 50) (pc' := 71) rfl (hb hby d53_50) rfl ((if0 _ _).trans (feq (fun q_ => hc9 ((lw_eq q1 (-9223372036854775808 : Int64)).mp q_))).2) (by decide) (by decide) k) ?_
      refine own_go (st' := T2.setTop (mkF m 73 #[oj q1, .second, oj q2, .second, .val (.long (q1 * q2)), .second, oj q1, .second, oj q2, .second] [(.long (q1 * q2))])) (fun _ k => XS.lload X2.here hx rfl (hb hby d53_71) rfl k) ?_
      obtain ⟨fs, hr, hrun, hended, hW, hsame⟩ := X2.leave (v := some (.long (q1 * q2))) (fun h => by rw [Bd.returns] at h; cases h)
      refine ⟨_, _, ?_, hP _ _ hrun hended ⟨_, _, rfl, ?_, ⟨_, rfl⟩, hW, hsame.mono (by decide) (by decide)⟩⟩
      · exact retOut X2 hx Bd.returns rfl (Or.inr (Or.inl ⟨rfl, rfl, _, rfl⟩)) (hb hby d53_73) hr
      · show Qrm53 Z q1 q2 h0 n0 _ T2.heap _
        rw [eq2]
        exact ⟨rfl, N2, rfl⟩
theorem d55_0 : decode prog_19_method_1_code 0 = .ok (.aload_n 0, 1) := by decide +kernel
theorem d55_1 : decode prog_19_method_1_code 1 = .ok (.invokespecial 1, 3) := by decide +kernel
theorem d55_4 : decode prog_19_method_1_code 4 = .ok (.aload_n 0, 1) := by decide +kernel
theorem d55_5 : decode prog_19_method_1_code 5 = .ok (.aload_n 1, 1) := by decide +kernel
theorem d55_6 : decode prog_19_method_1_code 6 = .ok (.putfield 7, 3) := by decide +kernel
theorem d55_9 : decode prog_19_method_1_code 9 = .ok (.aload_n 0, 1) := by decide +kernel
theorem d55_10 : decode prog_19_method_1_code 10 = .ok (.aload_n 2, 1) := by decide +kernel
theorem d55_11 : decode prog_19_method_1_code 11 = .ok (.putfield 13, 3) := by decide +kernel
theorem d55_14 : decode prog_19_method_1_code 14 = .ok (.aload_n 0, 1) := by decide +kernel
theorem d55_15 : decode prog_19_method_1_code 15 = .ok (.aload_n 3, 1) := by decide +kernel
theorem d55_16 : decode prog_19_method_1_code 16 = .ok (.putfield 16, 3) := by decide +kernel
theorem d55_19 : decode prog_19_method_1_code 19 = .ok (.aload_n 0, 1) := by decide +kernel
theorem d55_20 : decode prog_19_method_1_code 20 = .ok (.aload 4, 2) := by decide +kernel
theorem d55_22 : decode prog_19_method_1_code 22 = .ok (.putfield 19, 3) := by decide +kernel
theorem d55_25 : decode prog_19_method_1_code 25 = .ok (.return_, 1) := by decide +kernel
theorem pn_55 : plainName "com/example/millwright/millwright/cut/Order" = true := by first | (simp [plainName, overriddenIn]; done) | decide +kernel
theorem ef_rm55 (m : MethodId) (x0 : Addr) (x1 : Addr) (x2 : Addr) (x3 : Addr) (x4 : Addr) : entryFrame m #[(.ref x0), (.ref x1), (.ref x2), (.ref x3), (.ref x4)] 5 = mkF m 0 #[.val (.ref x0), .val (.ref x1), .val (.ref x2), .val (.ref x3), .val (.ref x4)] [] := by first | (simp [entryFrame, mkF, argsToLocals, Value.category]; done) | rfl
def Qrm55 (Z : State) (a1 : Addr) (s1 : Addr) (s2 : Addr) (s3 : Addr) (s4 : Addr) (h0 : Heap) (n0 : Nat) (v : Option Value) (h : Heap) (L : List Loc) : Prop := (v = none) ∧ (Fr n0 L) ∧ (Keep h0 h [a1]) ∧ (Exa Z h a1 "com/example/millwright/millwright/cut/Order") ∧ (Fld Z h a1 "com/example/millwright/millwright/cut/Order" "stockLength" "[J" (.ref s1)) ∧ (Fld Z h a1 "com/example/millwright/millwright/cut/Order" "available" "[J" (.ref s2)) ∧ (Fld Z h a1 "com/example/millwright/millwright/cut/Order" "length" "[J" (.ref s3)) ∧ (Fld Z h a1 "com/example/millwright/millwright/cut/Order" "count" "[J" (.ref s4))
set_option maxRecDepth 65536 in
set_option maxHeartbeats 40000000 in
theorem rm55 (l : Launch) (Z : State) (a0 : Array Value) (hw : ∀ d ∈ tables_1, d.before a0 Z = true) (ws : List Jvm.Cond) (a1 : Addr) (s1 : Addr) (s2 : Addr) (s3 : Addr) (s4 : Addr) (h0 : Heap) (n0 : Nat) (Z0 : n0 ≤ h0.size) (pr1 : Exa Z h0 a1 oS9) (pr2 : Fld Z h0 a1 oS9 "stockLength" "[J" .null) (pr3 : Fld Z h0 a1 oS9 "available" "[J" .null) (pr4 : Fld Z h0 a1 oS9 "length" "[J" .null) (pr5 : Fld Z h0 a1 oS9 "count" "[J" .null) (pr6 : n0 ≤ a1) :
    MetFree l oM64 (head1 (Jvm.Cond.code oM64 prog_19_method_1_code 5 none :: ws) ({ frames := 1, cells := 0, slots := 0, locals := 12 } : Room)) (fun a U => a = #[(.ref a1), (.ref s1), (.ref s2), (.ref s3), (.ref s4)] ∧ Z.Warmed39 U.vm ∧ U.heap = h0) (fun _ _ _ _ _ => True) (fun _ U o U' => ∃ v L, o = .returned v ∧ Qrm55 Z a1 s1 s2 s3 s4 h0 n0 v U'.heap L ∧ FrameEnd U o U' L ({ frames := 1, cells := 0, slots := 0, locals := 12 } : Room).cells ({ frames := 1, cells := 0, slots := 0, locals := 12 } : Room).slots) := by
  refine MetFree.of_bodySF (plainFor_of_name pn_55) hisR ?_
  intro p e s m args below meth c s₁ Bd hml0 hP0 hK
  obtain ⟨rfl, hZ, hh⟩ := hP0
  have hx := Bd.exec
  have hby := Bd.bytes
  have hml : c.maxLocals = 5 := hml0
  have hown : s.vm.findClass oS9 = some m.cls := findClass_of_methodNamed Bd.named
  have hnm := (name_of_methodNamed Bd.named Bd.method).1
  have X0 : Stand p l e ({ frames := 1, cells := 0, slots := 0, locals := 12 } : Room) s m #[(.ref a1), (.ref s1), (.ref s2), (.ref s3), (.ref s4)] below meth c s₁ [] 0 0 := Stand.of_body Bd
  have e0 : s₁.heap = h0 := by rw [← hh, Bd.state]; rfl
  have N0 := Fr.nil n0
  refine own_fin (st' := s₁.setTop (mkF m 0 #[oR a1, oR s1, oR s2, oR s3, oR s4] [])) (fun _ k => castTop (ef_rm55 m a1 s1 s2 s3 s4) k) (fun P hP => ?_)
  have lt_a1 : @LT.lt Nat _ a1 h0.size := pr1.lt
  refine own_go (st' := s₁.setTop (mkF m 1 #[oR a1, oR s1, oR s2, oR s3, oR s4] [(.ref a1)])) (fun _ k => XS.aloadN X0.here hx rfl (hb hby d55_0) rfl rfl k) ?_
  obtain ⟨T1, X1, e1, st1⟩ := initO X0 hx hZ hown (own_hw hw 422) (own_hw hw 13) (own_hw hw 14) e0 (g := (mkF m 1 #[oR a1, oR s1, oR s2, oR s3, oR s4] [(.ref a1)])) rfl (by rw [hml]; rfl) rfl (hb hby d55_1) (by decide) (W := 0) (by show 2 * 0 + _ ≤ _; exact Nat.le_of_eq rfl) (by decide)
  refine own_go (st' := T1.setTop (mkF m 4 #[oR a1, oR s1, oR s2, oR s3, oR s4] [])) (st1) ?_
  refine own_go (st' := T1.setTop (mkF m 5 #[oR a1, oR s1, oR s2, oR s3, oR s4] [(.ref a1)])) (fun _ k => XS.aloadN X1.here hx rfl (hb hby d55_4) rfl rfl k) ?_
  refine own_go (st' := T1.setTop (mkF m 6 #[oR a1, oR s1, oR s2, oR s3, oR s4] [(.ref s1), (.ref a1)])) (fun _ k => XS.aloadN X1.here hx rfl (hb hby d55_5) rfl rfl k) ?_
  obtain ⟨T2, h2, X2, e2, W2, st2⟩ := putF X1 hx hZ hown (host := "") (Or.inl (own_hw hw 423)) Via.refl e1 pr2 pr1 (Or.inr ⟨(own_hw hw 424), rfl, hnm⟩) (own_hw hw 417) (ty := (.array .long)) (by decide) rfl rfl (g := (mkF m 6 #[oR a1, oR s1, oR s2, oR s3, oR s4] [(.ref s1), (.ref a1)])) rfl rfl (hb hby d55_6)
  have sz2 : h2.size = h0.size := W2.size
  have N2 := Fr.snoc X2 N0 (by omega)
  have f2 : Fld Z h2 a1 oS9 "stockLength" "[J" (.ref s1) := pr2.same W2
  refine own_go (st' := T2.setTop (mkF m 9 #[oR a1, oR s1, oR s2, oR s3, oR s4] [])) (st2) ?_
  refine own_go (st' := T2.setTop (mkF m 10 #[oR a1, oR s1, oR s2, oR s3, oR s4] [(.ref a1)])) (fun _ k => XS.aloadN X2.here hx rfl (hb hby d55_9) rfl rfl k) ?_
  refine own_go (st' := T2.setTop (mkF m 11 #[oR a1, oR s1, oR s2, oR s3, oR s4] [(.ref s2), (.ref a1)])) (fun _ k => XS.aloadN X2.here hx rfl (hb hby d55_10) rfl rfl k) ?_
  have c3 : Fld Z h2 a1 oS9 "available" "[J" .null := (pr3.other W2 (Or.inr (slot_ne (Or.inr (own_hw hw 426)) (Or.inr (own_hw hw 424)) (by decide) (t := (.array .long)) (t' := (.array .long)) (by decide) (by decide))))
  have c4 : Exa Z h2 a1 oS9 := (pr1.wr W2)
  obtain ⟨T5, h5, X5, e5, W5, st5⟩ := putF X2 hx hZ hown (host := "") (Or.inl (own_hw hw 425)) Via.refl e2 c3 c4 (Or.inr ⟨(own_hw hw 426), rfl, hnm⟩) (own_hw hw 417) (ty := (.array .long)) (by decide) rfl rfl (g := (mkF m 11 #[oR a1, oR s1, oR s2, oR s3, oR s4] [(.ref s2), (.ref a1)])) rfl rfl (hb hby d55_11)
  have sz5 : h5.size = h2.size := W5.size
  have N5 := Fr.snoc X5 N2 (by omega)
  have f5 : Fld Z h5 a1 oS9 "available" "[J" (.ref s2) := c3.same W5
  refine own_go (st' := T5.setTop (mkF m 14 #[oR a1, oR s1, oR s2, oR s3, oR s4] [])) (st5) ?_
  refine own_go (st' := T5.setTop (mkF m 15 #[oR a1, oR s1, oR s2, oR s3, oR s4] [(.ref a1)])) (fun _ k => XS.aloadN X5.here hx rfl (hb hby d55_14) rfl rfl k) ?_
  refine own_go (st' := T5.setTop (mkF m 16 #[oR a1, oR s1, oR s2, oR s3, oR s4] [(.ref s3), (.ref a1)])) (fun _ k => XS.aloadN X5.here hx rfl (hb hby d55_15) rfl rfl k) ?_
  have c6 : Fld Z h5 a1 oS9 "length" "[J" .null := ((pr4.other W2 (Or.inr (slot_ne (Or.inr (own_hw hw 428)) (Or.inr (own_hw hw 424)) (by decide) (t := (.array .long)) (t' := (.array .long)) (by decide) (by decide)))).other W5 (Or.inr (slot_ne (Or.inr (own_hw hw 428)) (Or.inr (own_hw hw 426)) (by decide) (t := (.array .long)) (t' := (.array .long)) (by decide) (by decide))))
  have c7 : Exa Z h5 a1 oS9 := (c4.wr W5)
  obtain ⟨T8, h8, X8, e8, W8, st8⟩ := putF X5 hx hZ hown (host := "") (Or.inl (own_hw hw 427)) Via.refl e5 c6 c7 (Or.inr ⟨(own_hw hw 428), rfl, hnm⟩) (own_hw hw 417) (ty := (.array .long)) (by decide) rfl rfl (g := (mkF m 16 #[oR a1, oR s1, oR s2, oR s3, oR s4] [(.ref s3), (.ref a1)])) rfl rfl (hb hby d55_16)
  have sz8 : h8.size = h5.size := W8.size
  have N8 := Fr.snoc X8 N5 (by omega)
  have f8 : Fld Z h8 a1 oS9 "length" "[J" (.ref s3) := c6.same W8
  refine own_go (st' := T8.setTop (mkF m 19 #[oR a1, oR s1, oR s2, oR s3, oR s4] [])) (st8) ?_
  refine own_go (st' := T8.setTop (mkF m 20 #[oR a1, oR s1, oR s2, oR s3, oR s4] [(.ref a1)])) (fun _ k => XS.aloadN X8.here hx rfl (hb hby d55_19) rfl rfl k) ?_
  refine own_go (st' := T8.setTop (mkF m 22 #[oR a1, oR s1, oR s2, oR s3, oR s4] [(.ref s4), (.ref a1)])) (fun _ k => XS.aload X8.here hx rfl (hb hby d55_20) rfl rfl k) ?_
  have c9 : Fld Z h8 a1 oS9 "count" "[J" .null := (((pr5.other W2 (Or.inr (slot_ne (Or.inr (own_hw hw 430)) (Or.inr (own_hw hw 424)) (by decide) (t := (.array .long)) (t' := (.array .long)) (by decide) (by decide)))).other W5 (Or.inr (slot_ne (Or.inr (own_hw hw 430)) (Or.inr (own_hw hw 426)) (by decide) (t := (.array .long)) (t' := (.array .long)) (by decide) (by decide)))).other W8 (Or.inr (slot_ne (Or.inr (own_hw hw 430)) (Or.inr (own_hw hw 428)) (by decide) (t := (.array .long)) (t' := (.array .long)) (by decide) (by decide))))
  have c10 : Exa Z h8 a1 oS9 := (c7.wr W8)
  obtain ⟨T11, h11, X11, e11, W11, st11⟩ := putF X8 hx hZ hown (host := "") (Or.inl (own_hw hw 429)) Via.refl e8 c9 c10 (Or.inr ⟨(own_hw hw 430), rfl, hnm⟩) (own_hw hw 417) (ty := (.array .long)) (by decide) rfl rfl (g := (mkF m 22 #[oR a1, oR s1, oR s2, oR s3, oR s4] [(.ref s4), (.ref a1)])) rfl rfl (hb hby d55_22)
  have sz11 : h11.size = h8.size := W11.size
  have N11 := Fr.snoc X11 N8 (by omega)
  have f11 : Fld Z h11 a1 oS9 "count" "[J" (.ref s4) := c9.same W11
  refine own_go (st' := T11.setTop (mkF m 25 #[oR a1, oR s1, oR s2, oR s3, oR s4] [])) (st11) ?_
  obtain ⟨fs, hr, hrun, hended, hW, hsame⟩ := X11.leave (v := none) (fun _ => rfl)
  refine ⟨_, _, ?_, hP _ _ hrun hended ⟨_, _, rfl, ?_, ⟨_, rfl⟩, hW, hsame.mono (by decide) (by decide)⟩⟩
  · exact X11.returnOut hx Bd.returns (hb hby d55_25) hr
  · show Qrm55 Z a1 s1 s2 s3 s4 h0 n0 _ T11.heap _
    have c13 : Exa Z h11 a1 oS9 := (c10.wr W11)
    have c14 : Fld Z h11 a1 oS9 "stockLength" "[J" (.ref s1) := (((f2.other W5 (Or.inr (slot_ne (Or.inr (own_hw hw 424)) (Or.inr (own_hw hw 426)) (by decide) (t := (.array .long)) (t' := (.array .long)) (by decide) (by decide)))).other W8 (Or.inr (slot_ne (Or.inr (own_hw hw 424)) (Or.inr (own_hw hw 428)) (by decide) (t := (.array .long)) (t' := (.array .long)) (by decide) (by decide)))).other W11 (Or.inr (slot_ne (Or.inr (own_hw hw 424)) (Or.inr (own_hw hw 430)) (by decide) (t := (.array .long)) (t' := (.array .long)) (by decide) (by decide))))
    have c15 : Fld Z h11 a1 oS9 "available" "[J" (.ref s2) := ((f5.other W8 (Or.inr (slot_ne (Or.inr (own_hw hw 426)) (Or.inr (own_hw hw 428)) (by decide) (t := (.array .long)) (t' := (.array .long)) (by decide) (by decide)))).other W11 (Or.inr (slot_ne (Or.inr (own_hw hw 426)) (Or.inr (own_hw hw 430)) (by decide) (t := (.array .long)) (t' := (.array .long)) (by decide) (by decide))))
    have c16 : Fld Z h11 a1 oS9 "length" "[J" (.ref s3) := (f8.other W11 (Or.inr (slot_ne (Or.inr (own_hw hw 428)) (Or.inr (own_hw hw 430)) (by decide) (t := (.array .long)) (t' := (.array .long)) (by decide) (by decide))))
    rw [e11]
    exact ⟨rfl, N11, (((((Keep.refl h0 [a1]).wr W2 (Or.inl (List.mem_of_getElem? (i := 0) rfl))).wr W5 (Or.inl (List.mem_of_getElem? (i := 0) rfl))).wr W8 (Or.inl (List.mem_of_getElem? (i := 0) rfl))).wr W11 (Or.inl (List.mem_of_getElem? (i := 0) rfl))), c13, c14, c15, c16, f11⟩
theorem pd_28 : parseMethodDescriptor "(JJ)J" = some ⟨[.long, .long], some .long⟩ := by decide +kernel
theorem pd_29 : parseMethodDescriptor "([J[J[J[J)V" = some ⟨[(.array .long), (.array .long), (.array .long), (.array .long)], none⟩ := by decide +kernel
theorem pd_30 : parseMethodDescriptor "()Ljava/util/Set;" = some ⟨[], some (.object "java/util/Set")⟩ := by decide +kernel
theorem pd_31 : parseMethodDescriptor "()Z" = some ⟨[], some .boolean⟩ := by decide +kernel
theorem pd_32 : parseMethodDescriptor "()Ljava/lang/Object;" = some ⟨[], some (.object "java/lang/Object")⟩ := by decide +kernel
theorem d27_0 : decode prog_20_method_5_code 0 = .ok (.aload_n 0, 1) := by decide +kernel
theorem d27_1 : decode prog_20_method_5_code 1 = .ok (.getfield 18, 3) := by decide +kernel
theorem d27_4 : decode prog_20_method_5_code 4 = .ok (.invokeinterface 65 1, 5) := by decide +kernel
theorem d27_9 : decode prog_20_method_5_code 9 = .ok (.ifCond .eq 13, 3) := by decide +kernel
theorem d27_22 : decode prog_20_method_5_code 22 = .ok (.aload_n 0, 1) := by decide +kernel
theorem d27_23 : decode prog_20_method_5_code 23 = .ok (.getfield 18, 3) := by decide +kernel
theorem d27_26 : decode prog_20_method_5_code 26 = .ok (.invokeinterface 71 1, 5) := by decide +kernel
theorem d27_31 : decode prog_20_method_5_code 31 = .ok (.invokeinterface 75 1, 5) := by decide +kernel
theorem d27_36 : decode prog_20_method_5_code 36 = .ok (.invokeinterface 81 1, 5) := by decide +kernel
theorem d27_41 : decode prog_20_method_5_code 41 = .ok (.checkcast 25, 3) := by decide +kernel
theorem d27_44 : decode prog_20_method_5_code 44 = .ok (.invokevirtual 52, 3) := by decide +kernel
theorem d27_47 : decode prog_20_method_5_code 47 = .ok (.lstore_n 1, 1) := by decide +kernel
theorem d27_48 : decode prog_20_method_5_code 48 = .ok (.aload_n 0, 1) := by decide +kernel
theorem d27_49 : decode prog_20_method_5_code 49 = .ok (.getfield 22, 3) := by decide +kernel
theorem d27_52 : decode prog_20_method_5_code 52 = .ok (.invokeinterface 65 1, 5) := by decide +kernel
theorem d27_57 : decode prog_20_method_5_code 57 = .ok (.ifCond .eq 7, 3) := by decide +kernel
theorem d27_64 : decode prog_20_method_5_code 64 = .ok (.aload_n 0, 1) := by decide +kernel
theorem d27_65 : decode prog_20_method_5_code 65 = .ok (.getfield 22, 3) := by decide +kernel
theorem d27_68 : decode prog_20_method_5_code 68 = .ok (.invokeinterface 71 1, 5) := by decide +kernel
theorem d27_73 : decode prog_20_method_5_code 73 = .ok (.invokeinterface 75 1, 5) := by decide +kernel
theorem d27_78 : decode prog_20_method_5_code 78 = .ok (.invokeinterface 81 1, 5) := by decide +kernel
theorem d27_83 : decode prog_20_method_5_code 83 = .ok (.checkcast 25, 3) := by decide +kernel
theorem d27_86 : decode prog_20_method_5_code 86 = .ok (.invokevirtual 52, 3) := by decide +kernel
theorem d27_89 : decode prog_20_method_5_code 89 = .ok (.lstore_n 3, 1) := by decide +kernel
theorem d27_90 : decode prog_20_method_5_code 90 = .ok (.lload_n 3, 1) := by decide +kernel
theorem d27_91 : decode prog_20_method_5_code 91 = .ok (.lload_n 1, 1) := by decide +kernel
theorem d27_92 : decode prog_20_method_5_code 92 = .ok (.lcmp, 1) := by decide +kernel
theorem d27_93 : decode prog_20_method_5_code 93 = .ok (.ifCond .le 16, 3) := by decide +kernel
theorem d27_109 : decode prog_20_method_5_code 109 = .ok (.aload_n 0, 1) := by decide +kernel
theorem d27_110 : decode prog_20_method_5_code 110 = .ok (.getfield 18, 3) := by decide +kernel
theorem d27_113 : decode prog_20_method_5_code 113 = .ok (.invokeinterface 93 1, 5) := by decide +kernel
theorem d27_118 : decode prog_20_method_5_code 118 = .ok (.newarray .long, 2) := by decide +kernel
theorem d27_120 : decode prog_20_method_5_code 120 = .ok (.astore 5, 2) := by decide +kernel
theorem d27_122 : decode prog_20_method_5_code 122 = .ok (.aload_n 0, 1) := by decide +kernel
theorem d27_123 : decode prog_20_method_5_code 123 = .ok (.getfield 18, 3) := by decide +kernel
theorem d27_126 : decode prog_20_method_5_code 126 = .ok (.invokeinterface 93 1, 5) := by decide +kernel
theorem d27_131 : decode prog_20_method_5_code 131 = .ok (.newarray .long, 2) := by decide +kernel
theorem d27_133 : decode prog_20_method_5_code 133 = .ok (.astore 6, 2) := by decide +kernel
theorem d27_135 : decode prog_20_method_5_code 135 = .ok (.iconst 0, 1) := by decide +kernel
theorem d27_136 : decode prog_20_method_5_code 136 = .ok (.istore 7, 2) := by decide +kernel
theorem d27_138 : decode prog_20_method_5_code 138 = .ok (.aload_n 0, 1) := by decide +kernel
theorem d27_139 : decode prog_20_method_5_code 139 = .ok (.getfield 18, 3) := by decide +kernel
theorem d27_142 : decode prog_20_method_5_code 142 = .ok (.invokeinterface 97 1, 5) := by decide +kernel
theorem d27_147 : decode prog_20_method_5_code 147 = .ok (.invokeinterface 75 1, 5) := by decide +kernel
theorem d27_152 : decode prog_20_method_5_code 152 = .ok (.astore 8, 2) := by decide +kernel
theorem d27_154 : decode prog_20_method_5_code 154 = .ok (.aload 8, 2) := by decide +kernel
theorem d27_156 : decode prog_20_method_5_code 156 = .ok (.invokeinterface 100 1, 5) := by decide +kernel
theorem d27_161 : decode prog_20_method_5_code 161 = .ok (.ifCond .eq 57, 3) := by decide +kernel
theorem d27_164 : decode prog_20_method_5_code 164 = .ok (.aload 8, 2) := by decide +kernel
theorem d27_166 : decode prog_20_method_5_code 166 = .ok (.invokeinterface 81 1, 5) := by decide +kernel
theorem d27_171 : decode prog_20_method_5_code 171 = .ok (.checkcast 103, 3) := by decide +kernel
theorem d27_174 : decode prog_20_method_5_code 174 = .ok (.astore 9, 2) := by decide +kernel
theorem d27_176 : decode prog_20_method_5_code 176 = .ok (.aload 5, 2) := by decide +kernel
theorem d27_178 : decode prog_20_method_5_code 178 = .ok (.iload 7, 2) := by decide +kernel
theorem d27_180 : decode prog_20_method_5_code 180 = .ok (.aload 9, 2) := by decide +kernel
theorem d27_182 : decode prog_20_method_5_code 182 = .ok (.invokeinterface 105 1, 5) := by decide +kernel
theorem d27_187 : decode prog_20_method_5_code 187 = .ok (.checkcast 25, 3) := by decide +kernel
theorem d27_190 : decode prog_20_method_5_code 190 = .ok (.invokevirtual 52, 3) := by decide +kernel
theorem d27_193 : decode prog_20_method_5_code 193 = .ok (.lastore, 1) := by decide +kernel
theorem d27_194 : decode prog_20_method_5_code 194 = .ok (.aload 6, 2) := by decide +kernel
theorem d27_196 : decode prog_20_method_5_code 196 = .ok (.iload 7, 2) := by decide +kernel
theorem d27_198 : decode prog_20_method_5_code 198 = .ok (.aload 9, 2) := by decide +kernel
theorem d27_200 : decode prog_20_method_5_code 200 = .ok (.invokeinterface 108 1, 5) := by decide +kernel
theorem d27_205 : decode prog_20_method_5_code 205 = .ok (.checkcast 25, 3) := by decide +kernel
theorem d27_208 : decode prog_20_method_5_code 208 = .ok (.invokevirtual 52, 3) := by decide +kernel
theorem d27_211 : decode prog_20_method_5_code 211 = .ok (.lastore, 1) := by decide +kernel
theorem d27_212 : decode prog_20_method_5_code 212 = .ok (.iinc 7 1, 3) := by decide +kernel
theorem d27_215 : decode prog_20_method_5_code 215 = .ok (.goto (-61), 3) := by decide +kernel
theorem d27_218 : decode prog_20_method_5_code 218 = .ok (.aload_n 0, 1) := by decide +kernel
theorem d27_219 : decode prog_20_method_5_code 219 = .ok (.getfield 22, 3) := by decide +kernel
theorem d27_222 : decode prog_20_method_5_code 222 = .ok (.invokeinterface 93 1, 5) := by decide +kernel
theorem d27_227 : decode prog_20_method_5_code 227 = .ok (.newarray .long, 2) := by decide +kernel
theorem d27_229 : decode prog_20_method_5_code 229 = .ok (.astore 8, 2) := by decide +kernel
theorem d27_231 : decode prog_20_method_5_code 231 = .ok (.aload_n 0, 1) := by decide +kernel
theorem d27_232 : decode prog_20_method_5_code 232 = .ok (.getfield 22, 3) := by decide +kernel
theorem d27_235 : decode prog_20_method_5_code 235 = .ok (.invokeinterface 93 1, 5) := by decide +kernel
theorem d27_240 : decode prog_20_method_5_code 240 = .ok (.newarray .long, 2) := by decide +kernel
theorem d27_242 : decode prog_20_method_5_code 242 = .ok (.astore 9, 2) := by decide +kernel
theorem d27_244 : decode prog_20_method_5_code 244 = .ok (.lconst 0, 1) := by decide +kernel
theorem d27_245 : decode prog_20_method_5_code 245 = .ok (.lstore 10, 2) := by decide +kernel
theorem d27_247 : decode prog_20_method_5_code 247 = .ok (.iconst 0, 1) := by decide +kernel
theorem d27_248 : decode prog_20_method_5_code 248 = .ok (.istore 12, 2) := by decide +kernel
theorem d27_250 : decode prog_20_method_5_code 250 = .ok (.aload_n 0, 1) := by decide +kernel
theorem d27_251 : decode prog_20_method_5_code 251 = .ok (.getfield 22, 3) := by decide +kernel
theorem d27_254 : decode prog_20_method_5_code 254 = .ok (.invokeinterface 97 1, 5) := by decide +kernel
theorem d27_259 : decode prog_20_method_5_code 259 = .ok (.invokeinterface 75 1, 5) := by decide +kernel
theorem d27_264 : decode prog_20_method_5_code 264 = .ok (.astore 13, 2) := by decide +kernel
theorem d27_266 : decode prog_20_method_5_code 266 = .ok (.aload 13, 2) := by decide +kernel
theorem d27_268 : decode prog_20_method_5_code 268 = .ok (.invokeinterface 100 1, 5) := by decide +kernel
theorem d27_273 : decode prog_20_method_5_code 273 = .ok (.ifCond .eq 69, 3) := by decide +kernel
theorem d27_276 : decode prog_20_method_5_code 276 = .ok (.aload 13, 2) := by decide +kernel
theorem d27_278 : decode prog_20_method_5_code 278 = .ok (.invokeinterface 81 1, 5) := by decide +kernel
theorem d27_283 : decode prog_20_method_5_code 283 = .ok (.checkcast 103, 3) := by decide +kernel
theorem d27_286 : decode prog_20_method_5_code 286 = .ok (.astore 14, 2) := by decide +kernel
theorem d27_288 : decode prog_20_method_5_code 288 = .ok (.aload 8, 2) := by decide +kernel
theorem d27_290 : decode prog_20_method_5_code 290 = .ok (.iload 12, 2) := by decide +kernel
theorem d27_292 : decode prog_20_method_5_code 292 = .ok (.aload 14, 2) := by decide +kernel
theorem d27_294 : decode prog_20_method_5_code 294 = .ok (.invokeinterface 105 1, 5) := by decide +kernel
theorem d27_299 : decode prog_20_method_5_code 299 = .ok (.checkcast 25, 3) := by decide +kernel
theorem d27_302 : decode prog_20_method_5_code 302 = .ok (.invokevirtual 52, 3) := by decide +kernel
theorem d27_305 : decode prog_20_method_5_code 305 = .ok (.lastore, 1) := by decide +kernel
theorem d27_306 : decode prog_20_method_5_code 306 = .ok (.aload 9, 2) := by decide +kernel
theorem d27_308 : decode prog_20_method_5_code 308 = .ok (.iload 12, 2) := by decide +kernel
theorem d27_310 : decode prog_20_method_5_code 310 = .ok (.aload 14, 2) := by decide +kernel
theorem d27_312 : decode prog_20_method_5_code 312 = .ok (.invokeinterface 108 1, 5) := by decide +kernel
theorem d27_317 : decode prog_20_method_5_code 317 = .ok (.checkcast 25, 3) := by decide +kernel
theorem d27_320 : decode prog_20_method_5_code 320 = .ok (.invokevirtual 52, 3) := by decide +kernel
theorem d27_323 : decode prog_20_method_5_code 323 = .ok (.lastore, 1) := by decide +kernel
theorem d27_324 : decode prog_20_method_5_code 324 = .ok (.lload 10, 2) := by decide +kernel
theorem d27_326 : decode prog_20_method_5_code 326 = .ok (.aload 9, 2) := by decide +kernel
theorem d27_328 : decode prog_20_method_5_code 328 = .ok (.iload 12, 2) := by decide +kernel
theorem d27_330 : decode prog_20_method_5_code 330 = .ok (.laload, 1) := by decide +kernel
theorem d27_331 : decode prog_20_method_5_code 331 = .ok (.invokestatic 111, 3) := by decide +kernel
theorem d27_334 : decode prog_20_method_5_code 334 = .ok (.lstore 10, 2) := by decide +kernel
theorem d27_336 : decode prog_20_method_5_code 336 = .ok (.iinc 12 1, 3) := by decide +kernel
theorem d27_339 : decode prog_20_method_5_code 339 = .ok (.goto (-73), 3) := by decide +kernel
theorem d27_342 : decode prog_20_method_5_code 342 = .ok (.lload 10, 2) := by decide +kernel
theorem d27_344 : decode prog_20_method_5_code 344 = .ok (.lload_n 1, 1) := by decide +kernel
theorem d27_345 : decode prog_20_method_5_code 345 = .ok (.invokestatic 117, 3) := by decide +kernel
theorem d27_348 : decode prog_20_method_5_code 348 = .ok (.pop2, 1) := by decide +kernel
theorem d27_349 : decode prog_20_method_5_code 349 = .ok (.goto 19, 3) := by decide +kernel
theorem d27_368 : decode prog_20_method_5_code 368 = .ok (.new 88, 3) := by decide +kernel
theorem d27_371 : decode prog_20_method_5_code 371 = .ok (.dup, 1) := by decide +kernel
theorem d27_372 : decode prog_20_method_5_code 372 = .ok (.aload 5, 2) := by decide +kernel
theorem d27_374 : decode prog_20_method_5_code 374 = .ok (.aload 6, 2) := by decide +kernel
theorem d27_376 : decode prog_20_method_5_code 376 = .ok (.aload 8, 2) := by decide +kernel
theorem d27_378 : decode prog_20_method_5_code 378 = .ok (.aload 9, 2) := by decide +kernel
theorem d27_380 : decode prog_20_method_5_code 380 = .ok (.invokespecial 123, 3) := by decide +kernel
theorem d27_383 : decode prog_20_method_5_code 383 = .ok (.areturn, 1) := by decide +kernel
theorem pn_27 : plainName "com/example/millwright/millwright/cut/Order$Builder" = true := by first | (simp [plainName, overriddenIn]; done) | decide +kernel
theorem ef_rm27 (m : MethodId) (x0 : Addr) : entryFrame m #[(.ref x0)] 15 = mkF m 0 #[.val (.ref x0), .unset, .unset, .unset, .unset, .unset, .unset, .unset, .unset, .unset, .unset, .unset, .unset, .unset, .unset] [] := by first | (simp [entryFrame, mkF, argsToLocals, Value.category]; done) | rfl
def Qrm27 (Z : State) (ab : Addr) (ms : Addr) (mc : Addr) (cmp : Addr) (r1 : Addr) (r2 : Addr) (ak : Addr) (av : Addr) (bk : Addr) (bv : Addr) (pl : Int64) (pm : Int64) (pc : Int64) (h0 : Heap) (n0 : Nat) (v : Option Value) (h : Heap) (L : List Loc) : Prop := ∃ (ao : Addr) (s1 : Addr) (s3 : Addr) (k1_ : ClassId) (k3_ : ClassId), (v = some (.ref ao)) ∧ (Fr n0 L) ∧ (Keep h0 h [ms, mc]) ∧ (Exa Z h ao "com/example/millwright/millwright/cut/Order") ∧ (Fld Z h ao "com/example/millwright/millwright/cut/Order" "stockLength" "[J" (.ref s1)) ∧ (Fld Z h ao "com/example/millwright/millwright/cut/Order" "length" "[J" (.ref s3)) ∧ (Arv Z h s1 k1_ .long (1 : Int32) [(.long pl)] (.long (0 : Int64))) ∧ (Arv Z h s3 k3_ .long (1 : Int32) [(.long pm)] (.long (0 : Int64)))
set_option maxRecDepth 65536 in
set_option maxHeartbeats 40000000 in
theorem rm27 (l : Launch) (Z : State) (a0 : Array Value) (hw : ∀ d ∈ tables_1, d.before a0 Z = true) (ws : List Jvm.Cond) (ab : Addr) (ms : Addr) (mc : Addr) (cmp : Addr) (r1 : Addr) (r2 : Addr) (ak : Addr) (av : Addr) (bk : Addr) (bv : Addr) (pl : Int64) (pm : Int64) (pc : Int64) (h0 : Heap) (n0 : Nat) (Z0 : n0 ≤ h0.size) (pr1 : Exa Z h0 ab oS5) (pr2 : Fld Z h0 ab oS5 "stock" oS13 (.ref ms)) (pr3 : Fld Z h0 ab oS5 "counts" oS13 (.ref mc)) (pr4 : Exa Z h0 ms oS0) (pr5 : Fld Z h0 ms oS0 "comparator" oS6 (.ref cmp)) (pr6 : Fld Z h0 ms oS0 "root" oS2 (.ref r1)) (pr7 : Fld Z h0 ms oS0 "size" "I" (.int (1 : Int32))) (pr8 : Fld Z h0 ms oS0 "modCount" "I" (.int (1 : Int32))) (pr9 : Fld Z h0 ms oS0 oS10 oS11 .null) (pr10 : Fld Z h0 ms oS0 "entrySet" oS12 .null) (pr11 : Exa Z h0 r1 oS1) (pr12 : Fld Z h0 r1 oS1 "key" oS8 (.ref ak)) (pr13 : Fld Z h0 r1 oS1 "value" oS8 (.ref av)) (pr14 : Fld Z h0 r1 oS1 "left" oS2 .null) (pr15 : Fld Z h0 r1 oS1 "right" oS2 .null) (pr16 : Fld Z h0 r1 oS1 "parent" oS2 .null) (pr17 : Exa Z h0 ak oS3) (pr18 : Fld Z h0 ak oS3 "value" "J" (.long pl)) (pr19 : Exa Z h0 av oS3) (pr20 : Fld Z h0 av oS3 "value" "J" (.long (9223372036854775807 : Int64))) (pr21 : Exa Z h0 mc oS0) (pr22 : Fld Z h0 mc oS0 "comparator" oS6 (.ref cmp)) (pr23 : Fld Z h0 mc oS0 "root" oS2 (.ref r2)) (pr24 : Fld Z h0 mc oS0 "size" "I" (.int (1 : Int32))) (pr25 : Fld Z h0 mc oS0 "modCount" "I" (.int (1 : Int32))) (pr26 : Fld Z h0 mc oS0 oS10 oS11 .null) (pr27 : Fld Z h0 mc oS0 "entrySet" oS12 .null) (pr28 : Exa Z h0 r2 oS1) (pr29 : Fld Z h0 r2 oS1 "key" oS8 (.ref bk)) (pr30 : Fld Z h0 r2 oS1 "value" oS8 (.ref bv)) (pr31 : Fld Z h0 r2 oS1 "left" oS2 .null) (pr32 : Fld Z h0 r2 oS1 "right" oS2 .null) (pr33 : Fld Z h0 r2 oS1 "parent" oS2 .null) (pr34 : Exa Z h0 bk oS3) (pr35 : Fld Z h0 bk oS3 "value" "J" (.long pm)) (pr36 : Exa Z h0 bv oS3) (pr37 : Fld Z h0 bv oS3 "value" "J" (.long pc)) (pr38 : n0 ≤ ms) (pr39 : n0 ≤ mc) (pr40 : n0 ≤ r1) (pr41 : n0 ≤ r2) (pr42 : own_D ms mc) (pr43 : own_D ms r1) (pr44 : own_D ms r2) (pr45 : own_D mc r1) (pr46 : own_D mc r2) (pr47 : own_D ms ab) (pr48 : own_D mc ab) (pr49 : own_D ms ak) (pr50 : own_D ms av) (pr51 : own_D ms bk) (pr52 : own_D ms bv) (pr53 : own_D mc ak) (pr54 : own_D mc av) (pr55 : own_D mc bk) (pr56 : own_D mc bv) (hlm : ¬ pl < pm) (hnc : own_nn pc) (hnc0 : own_nn ((0 : Int64) + pc)) (hnl : own_nn pl) (hprl : own_pr ((0 : Int64) + pc) pl) :
    MetFree l oM38 (head1 (Jvm.Cond.codeWith oM38 prog_20_method_5_code 15 (some (.object oS9)) [((250 : Nat), (349 : Nat), (352 : Nat), (120 : Nat))] :: ws) ({ frames := 6, cells := 13, slots := 28, locals := 76 } : Room)) (fun a U => a = #[(.ref ab)] ∧ Z.Warmed39 U.vm ∧ U.heap = h0) (fun _ _ _ _ _ => True) (fun _ U o U' => ∃ v L, o = .returned v ∧ Qrm27 Z ab ms mc cmp r1 r2 ak av bk bv pl pm pc h0 n0 v U'.heap L ∧ FrameEnd U o U' L ({ frames := 6, cells := 13, slots := 28, locals := 76 } : Room).cells ({ frames := 6, cells := 13, slots := 28, locals := 76 } : Room).slots) := by
  refine MetFree.of_bodySF (plainFor_of_name pn_27) hisWith ?_
  intro p e s m args below meth c s₁ Bd hml0 hP0 hK
  obtain ⟨rfl, hZ, hh⟩ := hP0
  have hx := Bd.exec
  have hby := Bd.bytes
  have hml : c.maxLocals = 15 := hml0
  have hown : s.vm.findClass oS5 = some m.cls := findClass_of_methodNamed Bd.named
  have hnm := (name_of_methodNamed Bd.named Bd.method).1
  have X0 : Stand p l e ({ frames := 6, cells := 13, slots := 28, locals := 76 } : Room) s m #[(.ref ab)] below meth c s₁ [] 0 0 := Stand.of_body Bd
  have e0 : s₁.heap = h0 := by rw [← hh, Bd.state]; rfl
  have N0 := Fr.nil n0
  refine own_fin (st' := s₁.setTop (mkF m 0 #[oR ab, .unset, .unset, .unset, .unset, .unset, .unset, .unset, .unset, .unset, .unset, .unset, .unset, .unset, .unset] [])) (fun _ k => castTop (ef_rm27 m ab) k) (fun P hP => ?_)
  have lt_ab : @LT.lt Nat _ ab h0.size := pr1.lt
  have lt_ms : @LT.lt Nat _ ms h0.size := pr4.lt
  have lt_r1 : @LT.lt Nat _ r1 h0.size := pr11.lt
  have lt_ak : @LT.lt Nat _ ak h0.size := pr17.lt
  have lt_av : @LT.lt Nat _ av h0.size := pr19.lt
  have lt_mc : @LT.lt Nat _ mc h0.size := pr21.lt
  have lt_r2 : @LT.lt Nat _ r2 h0.size := pr28.lt
  have lt_bk : @LT.lt Nat _ bk h0.size := pr34.lt
  have lt_bv : @LT.lt Nat _ bv h0.size := pr36.lt
  have J342_1 : ∀ (Tj1 : State) (lj1 : List Loc) (hj1 : Heap) (s1 : Addr) (s2 : Addr) (s3 : Addr) (s4 : Addr) (it : Addr) (k1_ : ClassId) (k3_ : ClassId) (Xj1 : Stand p l e ({ frames := 6, cells := 13, slots := 28, locals := 76 } : Room) s m #[(.ref ab)] below meth c Tj1 lj1 12 24) (ej1 : Tj1.heap = hj1) (Nj1 : Fr n0 lj1)  (szj1 : h0.size ≤ hj1.size) (Kj1 : Keep h0 hj1 [ms, mc]) (fj1_0 : Arv Z hj1 s1 k1_ .long (1 : Int32) [(.long pl)] (.long (0 : Int64))) (fj1_1 : Arv Z hj1 s3 k3_ .long (1 : Int32) [(.long pm)] (.long (0 : Int64))), own_Go p.tables e below P (Tj1.setTop (mkF m 342 #[oR ab, oj pl, .second, oj pm, .second, oR s1, oR s2, oi 1, oR s3, oR s4, .val (.long ((0 : Int64) + pc)), .second, oi 1, oR it, oR r2] [])) := by as_aux_lemma =>
    intro Tj1 lj1 hj1 s1 s2 s3 s4 it k1_ k3_ Xj1 ej1 Nj1 szj1 Kj1 fj1_0 fj1_1
    have ltj1_0 : @LT.lt Nat _ s1 hj1.size := fj1_0.lt
    have ltj1_1 : @LT.lt Nat _ s3 hj1.size := fj1_1.lt
    refine own_go (st' := Tj1.setTop (mkF m 344 #[oR ab, oj pl, .second, oj pm, .second, oR s1, oR s2, oi 1, oR s3, oR s4, .val (.long ((0 : Int64) + pc)), .second, oi 1, oR it, oR r2] [(.long ((0 : Int64) + pc))])) (fun _ k => XS.lload Xj1.here hx rfl (hb hby d27_342) rfl k) ?_
    refine own_go (st' := Tj1.setTop (mkF m 345 #[oR ab, oj pl, .second, oj pm, .second, oR s1, oR s2, oi 1, oR s3, oR s4, .val (.long ((0 : Int64) + pc)), .second, oi 1, oR it, oR r2] [(.long pl), (.long ((0 : Int64) + pc))])) (fun _ k => XS.lloadN Xj1.here hx rfl (hb hby d27_344) rfl k) ?_
    obtain ⟨_, _, ⟨T2, LC2, kC2, nC2⟩, -, X2, ⟨Lc2, hQ2, lq2, yq2, zq2⟩, st2⟩ := Jvm.LawKit.callS Xj1 hx (y := oM37) hown (mvT hZ (own_hw hw 410)) (mvT hZ (own_hw hw 411)) (mvT hZ (own_hw hw 408)) (mvT hZ (own_hw hw 412)) (by decide) (backOf (W := 0) (rm53 l Z a0 hw [] ((0 : Int64) + pc) pl hj1 n0 (by omega) (by assumption) (by assumption) (by assumption)) hZ (own_hw hw 412) (own_hw hw 408) (by decide) (by decide)) (g := (mkF m 345 #[oR ab, oj pl, .second, oj pm, .second, oR s1, oR s2, oi 1, oR s3, oR s4, .val (.long ((0 : Int64) + pc)), .second, oi 1, oR it, oR r2] [(.long pl), (.long ((0 : Int64) + pc))])) rfl (by rw [hml]; rfl) (argsL := [(.long ((0 : Int64) + pc)), (.long pl)]) (rest := []) (lenOf pd_28 rfl) rfl (by show 2 * 0 + _ ≤ _; exact Nat.le_of_eq rfl) (hb hby d27_345) (fun _ _ => ⟨rfl, ej1, (by decide : 12 + 0 ≤ _), (by decide : 24 + 0 ≤ _)⟩)
    dsimp only [Pt.U, Pt.locs, Pt.cells, Pt.slots] at X2 lq2 yq2 zq2 st2 hQ2
    subst lq2 yq2 zq2
    obtain ⟨rfl, Nq2, eq2⟩ := hQ2
    have N2 := Fr.app Nj1 Nq2
    refine own_go (st' := T2.setTop (mkF m 348 #[oR ab, oj pl, .second, oj pm, .second, oR s1, oR s2, oi 1, oR s3, oR s4, .val (.long ((0 : Int64) + pc)), .second, oi 1, oR it, oR r2] [(.long (((0 : Int64) + pc) * pl))])) (fun t k => st2 t k) ?_
    refine own_go (st' := T2.setTop (mkF m 349 #[oR ab, oj pl, .second, oj pm, .second, oR s1, oR s2, oi 1, oR s3, oR s4, .val (.long ((0 : Int64) + pc)), .second, oi 1, oR it, oR r2] [])) (fun _ k => by jvm_step X2.here [X2.here.top, hx, (hb hby d27_348), Value.category]; first | exact k | simpa using k) ?_
    refine own_go (st' := T2.setTop (mkF m 368 #[oR ab, oj pl, .second, oj pm, .second, oR s1, oR s2, oi 1, oR s3, oR s4, .val (.long ((0 : Int64) + pc)), .second, oi 1, oR it, oR r2] [])) (fun _ k => XS.goto X2.here hx rfl (pc0 := 349) (pc' := 368) rfl (hb hby d27_349) (by decide) (by decide) k) ?_
    obtain ⟨T3, h3, X3, e3, E3, A3, D3, -, st3⟩ := newO X2 hx hZ hown (own_hw hw 416) (own_hw hw 417) (own_hw hw 418) eq2 (g := (mkF m 368 #[oR ab, oj pl, .second, oj pm, .second, oR s1, oR s2, oi 1, oR s3, oR s4, .val (.long ((0 : Int64) + pc)), .second, oi 1, oR it, oR r2] [])) rfl (hb hby d27_368) (by decide) (by decide)
    obtain ⟨b3, g3⟩ : ∃ z, z = hj1.size := ⟨_, rfl⟩
    rw [← g3] at A3 D3 st3
    have sz3 : hj1.size ≤ h3.size := E3.1
    have lt3 : @LT.lt Nat _ b3 h3.size := A3.lt
    have f4 : Fld Z h3 b3 oS9 "stockLength" "[J" .null := D3 (Or.inr (own_hw hw 424)) (ty := (.array .long)) (by decide)
    have f5 : Fld Z h3 b3 oS9 "available" "[J" .null := D3 (Or.inr (own_hw hw 426)) (ty := (.array .long)) (by decide)
    have f6 : Fld Z h3 b3 oS9 "length" "[J" .null := D3 (Or.inr (own_hw hw 428)) (ty := (.array .long)) (by decide)
    have f7 : Fld Z h3 b3 oS9 "count" "[J" .null := D3 (Or.inr (own_hw hw 430)) (ty := (.array .long)) (by decide)
    refine own_go (st' := T3.setTop (mkF m 371 #[oR ab, oj pl, .second, oj pm, .second, oR s1, oR s2, oi 1, oR s3, oR s4, .val (.long ((0 : Int64) + pc)), .second, oi 1, oR it, oR r2] [(.ref b3)])) (st3) ?_
    refine own_go (st' := T3.setTop (mkF m 372 #[oR ab, oj pl, .second, oj pm, .second, oR s1, oR s2, oi 1, oR s3, oR s4, .val (.long ((0 : Int64) + pc)), .second, oi 1, oR it, oR r2] [(.ref b3), (.ref b3)])) (fun _ k => XS.dup X3.here hx rfl (hb hby d27_371) rfl rfl k) ?_
    refine own_go (st' := T3.setTop (mkF m 374 #[oR ab, oj pl, .second, oj pm, .second, oR s1, oR s2, oi 1, oR s3, oR s4, .val (.long ((0 : Int64) + pc)), .second, oi 1, oR it, oR r2] [(.ref s1), (.ref b3), (.ref b3)])) (fun _ k => XS.aload X3.here hx rfl (hb hby d27_372) rfl rfl k) ?_
    refine own_go (st' := T3.setTop (mkF m 376 #[oR ab, oj pl, .second, oj pm, .second, oR s1, oR s2, oi 1, oR s3, oR s4, .val (.long ((0 : Int64) + pc)), .second, oi 1, oR it, oR r2] [(.ref s2), (.ref s1), (.ref b3), (.ref b3)])) (fun _ k => XS.aload X3.here hx rfl (hb hby d27_374) rfl rfl k) ?_
    refine own_go (st' := T3.setTop (mkF m 378 #[oR ab, oj pl, .second, oj pm, .second, oR s1, oR s2, oi 1, oR s3, oR s4, .val (.long ((0 : Int64) + pc)), .second, oi 1, oR it, oR r2] [(.ref s3), (.ref s2), (.ref s1), (.ref b3), (.ref b3)])) (fun _ k => XS.aload X3.here hx rfl (hb hby d27_376) rfl rfl k) ?_
    refine own_go (st' := T3.setTop (mkF m 380 #[oR ab, oj pl, .second, oj pm, .second, oR s1, oR s2, oi 1, oR s3, oR s4, .val (.long ((0 : Int64) + pc)), .second, oi 1, oR it, oR r2] [(.ref s4), (.ref s3), (.ref s2), (.ref s1), (.ref b3), (.ref b3)])) (fun _ k => XS.aload X3.here hx rfl (hb hby d27_378) rfl rfl k) ?_
    obtain ⟨_, _, ⟨T8, LC8, kC8, nC8⟩, -, X8, ⟨Lc8, hQ8, lq8, yq8, zq8⟩, st8⟩ := X3.specialBackNest hx (y := oM64) rfl hown (own_mvMN hZ (own_hw hw 419)) (mvT hZ (own_hw hw 420)) (mvT hZ (own_hw hw 421)) (by decide) (backOf (W := 1) (rm55 l Z a0 hw [] b3 s1 s2 s3 s4 h3 n0 (by omega) A3 f4 f5 f6 f7 (by omega)) hZ (own_hw hw 421) (own_hw hw 418) (by decide) (by decide)) (g := (mkF m 380 #[oR ab, oj pl, .second, oj pm, .second, oR s1, oR s2, oi 1, oR s3, oR s4, .val (.long ((0 : Int64) + pc)), .second, oi 1, oR it, oR r2] [(.ref s4), (.ref s3), (.ref s2), (.ref s1), (.ref b3), (.ref b3)])) rfl (by rw [hml]; rfl) (Steps.refl _) (a := b3) (argsL := [(.ref s1), (.ref s2), (.ref s3), (.ref s4)]) (rest := [(.ref b3)]) (lenOf pd_29 rfl) rfl (by show 2 * 0 + _ ≤ _; exact Nat.le_of_eq rfl) (hb hby d27_380) (fun _ _ => ⟨rfl, e3, (by decide : 13 + 0 ≤ _), (by decide : 28 + 0 ≤ _)⟩)
    dsimp only [Pt.U, Pt.locs, Pt.cells, Pt.slots] at X8 lq8 yq8 zq8 st8 hQ8
    subst lq8 yq8 zq8
    obtain ⟨h8, e8⟩ : ∃ z, T8.heap = z := ⟨_, rfl⟩
    rw [e8] at hQ8
    obtain ⟨rfl, Nq8, K8, g8_0, g8_1, g8_2, g8_3, g8_4⟩ := hQ8
    have sz8 : h3.size ≤ h8.size := K8.1
    have N8 := Fr.app N2 Nq8
    have lt8_1 : @LT.lt Nat _ b3 h8.size := g8_0.lt
    refine own_go (st' := T8.setTop (mkF m 383 #[oR ab, oj pl, .second, oj pm, .second, oR s1, oR s2, oi 1, oR s3, oR s4, .val (.long ((0 : Int64) + pc)), .second, oi 1, oR it, oR r2] [(.ref b3)])) (fun _ k => st8.trans k) ?_
    obtain ⟨fs, hr, hrun, hended, hW, hsame⟩ := X8.leave (v := some (.ref b3)) (fun h => by rw [Bd.returns] at h; cases h)
    refine ⟨_, _, ?_, hP _ _ hrun hended ⟨_, _, rfl, ?_, ⟨_, rfl⟩, hW, hsame.mono (by decide) (by decide)⟩⟩
    · exact retOut X8 hx Bd.returns rfl (Or.inr (Or.inr (Or.inr (Or.inr ⟨rfl, rfl, rfl⟩)))) (hb hby d27_383) hr
    · show Qrm27 Z ab ms mc cmp r1 r2 ak av bk bv pl pm pc h0 n0 _ T8.heap _
      have c10 : Arv Z h8 s1 k1_ .long (1 : Int32) [(.long pl)] (.long (0 : Int64)) := ((fj1_0.ext E3).keep K8 (ninS own_nq nin0))
      have c11 : Arv Z h8 s3 k3_ .long (1 : Int32) [(.long pm)] (.long (0 : Int64)) := ((fj1_1.ext E3).keep K8 (ninS own_nq nin0))
      rw [e8]
      exact ⟨b3, s1, s3, k1_, k3_, rfl, N8, ((Kj1.ext E3).trans K8 (allS (P := fun x => x ∈ [ms, mc] ∨ h0.size ≤ x) (Or.inr (by omega)) all0)), g8_0, g8_1, g8_3, c10, c11⟩
  have J218_12 : ∀ (Tj12 : State) (lj12 : List Loc) (hj12 : Heap) (s1 : Addr) (s2 : Addr) (it : Addr) (ks : Addr) (k1_ : ClassId) (Xj12 : Stand p l e ({ frames := 6, cells := 13, slots := 28, locals := 76 } : Room) s m #[(.ref ab)] below meth c Tj12 lj12 8 17) (ej12 : Tj12.heap = hj12) (Nj12 : Fr n0 lj12) (hn1 : own_D mc s1) (szj12 : h0.size ≤ hj12.size) (Kj12 : Keep h0 hj12 [ms, mc]) (fj12_0 : Exa Z hj12 ab oS5) (fj12_1 : Fld Z hj12 ab oS5 "counts" oS13 (.ref mc)) (fj12_2 : Exa Z hj12 mc oS0) (fj12_3 : Fld Z hj12 mc oS0 "comparator" oS6 (.ref cmp)) (fj12_4 : Fld Z hj12 mc oS0 "root" oS2 (.ref r2)) (fj12_5 : Fld Z hj12 mc oS0 "size" "I" (.int (1 : Int32))) (fj12_6 : Fld Z hj12 mc oS0 "modCount" "I" (.int (1 : Int32))) (fj12_7 : Fld Z hj12 mc oS0 oS10 oS11 (.ref ks)) (fj12_8 : Fld Z hj12 mc oS0 "entrySet" oS12 .null) (fj12_9 : Exa Z hj12 r2 oS1) (fj12_10 : Fld Z hj12 r2 oS1 "key" oS8 (.ref bk)) (fj12_11 : Fld Z hj12 r2 oS1 "value" oS8 (.ref bv)) (fj12_12 : Fld Z hj12 r2 oS1 "left" oS2 .null) (fj12_13 : Fld Z hj12 r2 oS1 "right" oS2 .null) (fj12_14 : Fld Z hj12 r2 oS1 "parent" oS2 .null) (fj12_15 : Exa Z hj12 bk oS3) (fj12_16 : Fld Z hj12 bk oS3 "value" "J" (.long pm)) (fj12_17 : Exa Z hj12 bv oS3) (fj12_18 : Fld Z hj12 bv oS3 "value" "J" (.long pc)) (fj12_19 : Arv Z hj12 s1 k1_ .long (1 : Int32) [(.long pl)] (.long (0 : Int64))), own_Go p.tables e below P (Tj12.setTop (mkF m 218 #[oR ab, oj pl, .second, oj pm, .second, oR s1, oR s2, oi 1, oR it, oR r1, .unset, .unset, .unset, .unset, .unset] [])) := by as_aux_lemma =>
    intro Tj12 lj12 hj12 s1 s2 it ks k1_ Xj12 ej12 Nj12 hn1 szj12 Kj12 fj12_0 fj12_1 fj12_2 fj12_3 fj12_4 fj12_5 fj12_6 fj12_7 fj12_8 fj12_9 fj12_10 fj12_11 fj12_12 fj12_13 fj12_14 fj12_15 fj12_16 fj12_17 fj12_18 fj12_19
    have ltj12_0 : @LT.lt Nat _ ab hj12.size := fj12_0.lt
    have ltj12_2 : @LT.lt Nat _ mc hj12.size := fj12_2.lt
    have ltj12_9 : @LT.lt Nat _ r2 hj12.size := fj12_9.lt
    have ltj12_15 : @LT.lt Nat _ bk hj12.size := fj12_15.lt
    have ltj12_17 : @LT.lt Nat _ bv hj12.size := fj12_17.lt
    have ltj12_19 : @LT.lt Nat _ s1 hj12.size := fj12_19.lt
    refine own_go (st' := Tj12.setTop (mkF m 219 #[oR ab, oj pl, .second, oj pm, .second, oR s1, oR s2, oi 1, oR it, oR r1, .unset, .unset, .unset, .unset, .unset] [(.ref ab)])) (fun _ k => XS.aloadN Xj12.here hx rfl (hb hby d27_218) rfl rfl k) ?_
    obtain ⟨T13, X13, e13, st13⟩ := getF Xj12 hx hZ hown (host := "") (Or.inl (own_hw hw 38)) Via.refl ej12 fj12_1 (g := (mkF m 219 #[oR ab, oj pl, .second, oj pm, .second, oR s1, oR s2, oi 1, oR it, oR r1, .unset, .unset, .unset, .unset, .unset] [(.ref ab)])) rfl rfl (hb hby d27_219)
    refine own_go (st' := T13.setTop (mkF m 222 #[oR ab, oj pl, .second, oj pm, .second, oR s1, oR s2, oi 1, oR it, oR r1, .unset, .unset, .unset, .unset, .unset] [(.ref mc)])) (st13) ?_
    obtain ⟨cq14, kq14, q14a, q14b, q14c⟩ := isOf hZ e13 fj12_2
    obtain ⟨_, _, ⟨T14, LC14, kC14, nC14⟩, -, X14, ⟨Lc14, hQ14, lq14, yq14, zq14⟩, st14⟩ := X13.interfaceBack hx (xi := oM39) (y := oM5) hown (mvT hZ (own_hw hw 317)) (mvT hZ (own_hw hw 318)) (mvT hZ (own_hw hw 319)) (mvT hZ (own_hw hw 320)) (mvT hZ (own_hw hw 210)) (mvT hZ (own_hw hw 321)) (mvT hZ (own_hw hw 322)) (mvT hZ (own_hw hw 65)) (by decide) (backOf (W := 0) (rm29 l Z a0 hw [] mc (1 : Int32) hj12 n0 (by omega) fj12_5) hZ (own_hw hw 211) (own_hw hw 17) (by decide) (by decide)) q14a q14b q14c (g := (mkF m 222 #[oR ab, oj pl, .second, oj pm, .second, oR s1, oR s2, oi 1, oR it, oR r1, .unset, .unset, .unset, .unset, .unset] [(.ref mc)])) rfl (by rw [hml]; rfl) (Steps.refl _) (argsL := []) (rest := []) (lenOf pd_18 rfl) rfl (by show 2 * 0 + _ ≤ _; exact Nat.le_of_eq rfl) (hb hby d27_222) (fun _ _ => ⟨rfl, e13, (by decide : 8 + 0 ≤ _), (by decide : 17 + 0 ≤ _)⟩)
    dsimp only [Pt.U, Pt.locs, Pt.cells, Pt.slots] at X14 lq14 yq14 zq14 st14 hQ14
    subst lq14 yq14 zq14
    obtain ⟨rfl, Nq14, eq14⟩ := hQ14
    have N14 := Fr.app Nj12 Nq14
    refine own_go (st' := T14.setTop (mkF m 227 #[oR ab, oj pl, .second, oj pm, .second, oR s1, oR s2, oi 1, oR it, oR r1, .unset, .unset, .unset, .unset, .unset] [(.int (1 : Int32))])) (fun _ k => st14.trans k) ?_
    obtain ⟨T15, h15, k15, X15, e15, E15, A15, st15⟩ := newP X14 hx hZ (own_hw hw 323) eq14 (g := (mkF m 227 #[oR ab, oj pl, .second, oj pm, .second, oR s1, oR s2, oi 1, oR it, oR r1, .unset, .unset, .unset, .unset, .unset] [(.int (1 : Int32))])) rfl (hb hby d27_227) rfl (by decide) (cap := 1) (by decide) (by decide) (by decide) (by decide)
    obtain ⟨b15, g15⟩ : ∃ z, z = hj12.size := ⟨_, rfl⟩
    rw [← g15] at A15 st15
    have sz15 : hj12.size ≤ h15.size := E15.1
    have lt15 : @LT.lt Nat _ b15 h15.size := A15.lt
    have v15 : Arv Z h15 b15 k15 .long (1 : Int32) [(.long (0 : Int64))] (.long (0 : Int64)) := (Arv.new A15 (by decide)).pad (pad_rep [] (.long (0 : Int64)) 1)
    refine own_go (st' := T15.setTop (mkF m 229 #[oR ab, oj pl, .second, oj pm, .second, oR s1, oR s2, oi 1, oR it, oR r1, .unset, .unset, .unset, .unset, .unset] [(.ref b15)])) (st15) ?_
    refine own_go (st' := T15.setTop (mkF m 231 #[oR ab, oj pl, .second, oj pm, .second, oR s1, oR s2, oi 1, oR b15, oR r1, .unset, .unset, .unset, .unset, .unset] [])) (fun _ k => XS.astore X15.here hx rfl (hb hby d27_229) rfl rfl (l' := #[oR ab, oj pl, .second, oj pm, .second, oR s1, oR s2, oi 1, oR b15, oR r1, .unset, .unset, .unset, .unset, .unset]) rfl k) ?_
    refine own_go (st' := T15.setTop (mkF m 232 #[oR ab, oj pl, .second, oj pm, .second, oR s1, oR s2, oi 1, oR b15, oR r1, .unset, .unset, .unset, .unset, .unset] [(.ref ab)])) (fun _ k => XS.aloadN X15.here hx rfl (hb hby d27_231) rfl rfl k) ?_
    have c16 : Fld Z h15 ab oS5 "counts" oS13 (.ref mc) := (fj12_1.ext E15)
    obtain ⟨T17, X17, e17, st17⟩ := getF X15 hx hZ hown (host := "") (Or.inl (own_hw hw 38)) Via.refl e15 c16 (g := (mkF m 232 #[oR ab, oj pl, .second, oj pm, .second, oR s1, oR s2, oi 1, oR b15, oR r1, .unset, .unset, .unset, .unset, .unset] [(.ref ab)])) rfl rfl (hb hby d27_232)
    refine own_go (st' := T17.setTop (mkF m 235 #[oR ab, oj pl, .second, oj pm, .second, oR s1, oR s2, oi 1, oR b15, oR r1, .unset, .unset, .unset, .unset, .unset] [(.ref mc)])) (st17) ?_
    have c19 : Fld Z h15 mc oS0 "size" "I" (.int (1 : Int32)) := (fj12_5.ext E15)
    have c20 : Exa Z h15 mc oS0 := (fj12_2.ext E15)
    obtain ⟨cq18, kq18, q18a, q18b, q18c⟩ := isOf hZ e17 c20
    obtain ⟨_, _, ⟨T18, LC18, kC18, nC18⟩, -, X18, ⟨Lc18, hQ18, lq18, yq18, zq18⟩, st18⟩ := X17.interfaceBack hx (xi := oM39) (y := oM5) hown (mvT hZ (own_hw hw 317)) (mvT hZ (own_hw hw 318)) (mvT hZ (own_hw hw 319)) (mvT hZ (own_hw hw 320)) (mvT hZ (own_hw hw 210)) (mvT hZ (own_hw hw 321)) (mvT hZ (own_hw hw 322)) (mvT hZ (own_hw hw 65)) (by decide) (backOf (W := 0) (rm29 l Z a0 hw [] mc (1 : Int32) h15 n0 (by omega) c19) hZ (own_hw hw 211) (own_hw hw 17) (by decide) (by decide)) q18a q18b q18c (g := (mkF m 235 #[oR ab, oj pl, .second, oj pm, .second, oR s1, oR s2, oi 1, oR b15, oR r1, .unset, .unset, .unset, .unset, .unset] [(.ref mc)])) rfl (by rw [hml]; rfl) (Steps.refl _) (argsL := []) (rest := []) (lenOf pd_18 rfl) rfl (by show 2 * 0 + _ ≤ _; exact Nat.le_of_eq rfl) (hb hby d27_235) (fun _ _ => ⟨rfl, e17, (by decide : 9 + 0 ≤ _), (by decide : 18 + 0 ≤ _)⟩)
    dsimp only [Pt.U, Pt.locs, Pt.cells, Pt.slots] at X18 lq18 yq18 zq18 st18 hQ18
    subst lq18 yq18 zq18
    obtain ⟨rfl, Nq18, eq18⟩ := hQ18
    have N18 := Fr.app N14 Nq18
    refine own_go (st' := T18.setTop (mkF m 240 #[oR ab, oj pl, .second, oj pm, .second, oR s1, oR s2, oi 1, oR b15, oR r1, .unset, .unset, .unset, .unset, .unset] [(.int (1 : Int32))])) (fun _ k => st18.trans k) ?_
    obtain ⟨T21, h21, k21, X21, e21, E21, A21, st21⟩ := newP X18 hx hZ (own_hw hw 323) eq18 (g := (mkF m 240 #[oR ab, oj pl, .second, oj pm, .second, oR s1, oR s2, oi 1, oR b15, oR r1, .unset, .unset, .unset, .unset, .unset] [(.int (1 : Int32))])) rfl (hb hby d27_240) rfl (by decide) (cap := 1) (by decide) (by decide) (by decide) (by decide)
    obtain ⟨b21, g21⟩ : ∃ z, z = h15.size := ⟨_, rfl⟩
    rw [← g21] at A21 st21
    have sz21 : h15.size ≤ h21.size := E21.1
    have lt21 : @LT.lt Nat _ b21 h21.size := A21.lt
    have v21 : Arv Z h21 b21 k21 .long (1 : Int32) [(.long (0 : Int64))] (.long (0 : Int64)) := (Arv.new A21 (by decide)).pad (pad_rep [] (.long (0 : Int64)) 1)
    refine own_go (st' := T21.setTop (mkF m 242 #[oR ab, oj pl, .second, oj pm, .second, oR s1, oR s2, oi 1, oR b15, oR r1, .unset, .unset, .unset, .unset, .unset] [(.ref b21)])) (st21) ?_
    refine own_go (st' := T21.setTop (mkF m 244 #[oR ab, oj pl, .second, oj pm, .second, oR s1, oR s2, oi 1, oR b15, oR b21, .unset, .unset, .unset, .unset, .unset] [])) (fun _ k => XS.astore X21.here hx rfl (hb hby d27_242) rfl rfl (l' := #[oR ab, oj pl, .second, oj pm, .second, oR s1, oR s2, oi 1, oR b15, oR b21, .unset, .unset, .unset, .unset, .unset]) rfl k) ?_
    refine own_go (st' := T21.setTop (mkF m 245 #[oR ab, oj pl, .second, oj pm, .second, oR s1, oR s2, oi 1, oR b15, oR b21, .unset, .unset, .unset, .unset, .unset] [(.long (0 : Int64))])) (fun _ k => XS.lconst X21.here hx rfl (hb hby d27_244) k) ?_
    refine own_go (st' := T21.setTop (mkF m 247 #[oR ab, oj pl, .second, oj pm, .second, oR s1, oR s2, oi 1, oR b15, oR b21, .val (.long (0 : Int64)), .second, .unset, .unset, .unset] [])) (fun _ k => XS.lstore X21.here hx rfl (hb hby d27_245) rfl (l' := #[oR ab, oj pl, .second, oj pm, .second, oR s1, oR s2, oi 1, oR b15, oR b21, .val (.long (0 : Int64)), .second, .unset, .unset, .unset]) rfl k) ?_
    refine own_go (st' := T21.setTop (mkF m 248 #[oR ab, oj pl, .second, oj pm, .second, oR s1, oR s2, oi 1, oR b15, oR b21, .val (.long (0 : Int64)), .second, .unset, .unset, .unset] [(.int (0 : Int32))])) (fun _ k => XS.iconst X21.here hx rfl (hb hby d27_247) k) ?_
    refine own_go (st' := T21.setTop (mkF m 250 #[oR ab, oj pl, .second, oj pm, .second, oR s1, oR s2, oi 1, oR b15, oR b21, .val (.long (0 : Int64)), .second, oi 0, .unset, .unset] [])) (fun _ k => XS.istore X21.here hx rfl (hb hby d27_248) rfl (l' := #[oR ab, oj pl, .second, oj pm, .second, oR s1, oR s2, oi 1, oR b15, oR b21, .val (.long (0 : Int64)), .second, oi 0, .unset, .unset]) rfl k) ?_
    refine own_go (st' := T21.setTop (mkF m 251 #[oR ab, oj pl, .second, oj pm, .second, oR s1, oR s2, oi 1, oR b15, oR b21, .val (.long (0 : Int64)), .second, oi 0, .unset, .unset] [(.ref ab)])) (fun _ k => XS.aloadN X21.here hx rfl (hb hby d27_250) rfl rfl k) ?_
    have c22 : Fld Z h21 ab oS5 "counts" oS13 (.ref mc) := (c16.ext E21)
    obtain ⟨T23, X23, e23, st23⟩ := getF X21 hx hZ hown (host := "") (Or.inl (own_hw hw 38)) Via.refl e21 c22 (g := (mkF m 251 #[oR ab, oj pl, .second, oj pm, .second, oR s1, oR s2, oi 1, oR b15, oR b21, .val (.long (0 : Int64)), .second, oi 0, .unset, .unset] [(.ref ab)])) rfl rfl (hb hby d27_251)
    refine own_go (st' := T23.setTop (mkF m 254 #[oR ab, oj pl, .second, oj pm, .second, oR s1, oR s2, oi 1, oR b15, oR b21, .val (.long (0 : Int64)), .second, oi 0, .unset, .unset] [(.ref mc)])) (st23) ?_
    have c25 : Exa Z h21 mc oS0 := (c20.ext E21)
    have c26 : Fld Z h21 mc oS0 "comparator" oS6 (.ref cmp) := ((fj12_3.ext E15).ext E21)
    have c27 : Fld Z h21 mc oS0 "root" oS2 (.ref r2) := ((fj12_4.ext E15).ext E21)
    have c28 : Fld Z h21 mc oS0 "size" "I" (.int (1 : Int32)) := (c19.ext E21)
    have c29 : Fld Z h21 mc oS0 "modCount" "I" (.int (1 : Int32)) := ((fj12_6.ext E15).ext E21)
    have c30 : Fld Z h21 mc oS0 oS10 oS11 (.ref ks) := ((fj12_7.ext E15).ext E21)
    have c31 : Fld Z h21 mc oS0 "entrySet" oS12 .null := ((fj12_8.ext E15).ext E21)
    obtain ⟨cq24, kq24, q24a, q24b, q24c⟩ := isOf hZ e23 c25
    obtain ⟨_, _, ⟨T24, LC24, kC24, nC24⟩, -, X24, ⟨Lc24, hQ24, lq24, yq24, zq24⟩, st24⟩ := X23.interfaceBack hx (xi := oM67) (y := oM31) hown (mvT hZ (own_hw hw 324)) (mvT hZ (own_hw hw 325)) (mvT hZ (own_hw hw 326)) (mvT hZ (own_hw hw 327)) (mvT hZ (own_hw hw 328)) (mvT hZ (own_hw hw 329)) (mvT hZ (own_hw hw 330)) (mvT hZ (own_hw hw 65)) (by decide) (backOf (W := 0) (rm43 l Z a0 hw [] mc cmp r2 ks h21 n0 (by omega) c25 c26 c27 c28 c29 c30 c31 (by omega)) hZ (own_hw hw 331) (own_hw hw 17) (by decide) (by decide)) q24a q24b q24c (g := (mkF m 254 #[oR ab, oj pl, .second, oj pm, .second, oR s1, oR s2, oi 1, oR b15, oR b21, .val (.long (0 : Int64)), .second, oi 0, .unset, .unset] [(.ref mc)])) rfl (by rw [hml]; rfl) (Steps.refl _) (argsL := []) (rest := []) (lenOf pd_30 rfl) rfl (by show 2 * 0 + _ ≤ _; exact Nat.le_of_eq rfl) (hb hby d27_254) (fun _ _ => ⟨rfl, e23, (by decide : 10 + 1 ≤ _), (by decide : 19 + 1 ≤ _)⟩)
    dsimp only [Pt.U, Pt.locs, Pt.cells, Pt.slots] at X24 lq24 yq24 zq24 st24 hQ24
    subst lq24 yq24 zq24
    obtain ⟨h24, e24⟩ : ∃ z, T24.heap = z := ⟨_, rfl⟩
    rw [e24] at hQ24
    obtain ⟨es_24, rfl, Nq24, K24, g24_0, g24_1, g24_2, g24_3, g24_4, g24_5, g24_6, g24_7, g24_8, g24_9⟩ := hQ24
    have sz24 : h21.size ≤ h24.size := K24.1
    have N24 := Fr.app N18 Nq24
    have lt24_1 : @LT.lt Nat _ mc h24.size := g24_0.lt
    have lt24_2 : @LT.lt Nat _ es_24 h24.size := g24_7.lt
    refine own_go (st' := T24.setTop (mkF m 259 #[oR ab, oj pl, .second, oj pm, .second, oR s1, oR s2, oi 1, oR b15, oR b21, .val (.long (0 : Int64)), .second, oi 0, .unset, .unset] [(.ref es_24)])) (fun _ k => st24.trans k) ?_
    have c33 : Fld Z h24 r2 oS1 "left" oS2 .null := (((fj12_12.ext E15).ext E21).keep K24 (ninS own_nq nin0))
    obtain ⟨cq32, kq32, q32a, q32b, q32c⟩ := isOf hZ e24 g24_7
    obtain ⟨_, _, ⟨T32, LC32, kC32, nC32⟩, -, X32, ⟨Lc32, hQ32, lq32, yq32, zq32⟩, st32⟩ := X24.interfaceBack hx (xi := oM40) (y := oM32) hown (mvT hZ (own_hw hw 249)) (mvT hZ (own_hw hw 250)) (mvT hZ (own_hw hw 251)) (mvT hZ (own_hw hw 346)) (mvT hZ (own_hw hw 347)) (mvT hZ (own_hw hw 348)) (mvT hZ (own_hw hw 349)) (mvT hZ (own_hw hw 350)) (by decide) (backOf (W := 0) (rm45 l Z a0 hw [] es_24 mc r2 h24 n0 (by omega) g24_7 g24_8 g24_0 g24_4 g24_2 c33) hZ (own_hw hw 351) (own_hw hw 336) (by decide) (by decide)) q32a q32b q32c (g := (mkF m 259 #[oR ab, oj pl, .second, oj pm, .second, oR s1, oR s2, oi 1, oR b15, oR b21, .val (.long (0 : Int64)), .second, oi 0, .unset, .unset] [(.ref es_24)])) rfl (by rw [hml]; rfl) (Steps.refl _) (argsL := []) (rest := []) (lenOf pd_23 rfl) rfl (by show 2 * 0 + _ ≤ _; exact Nat.le_of_eq rfl) (hb hby d27_259) (fun _ _ => ⟨rfl, e24, (by decide : 11 + 1 ≤ _), (by decide : 20 + 4 ≤ _)⟩)
    dsimp only [Pt.U, Pt.locs, Pt.cells, Pt.slots] at X32 lq32 yq32 zq32 st32 hQ32
    subst lq32 yq32 zq32
    obtain ⟨h32, e32⟩ : ∃ z, T32.heap = z := ⟨_, rfl⟩
    rw [e32] at hQ32
    obtain ⟨it_32, rfl, Nq32, K32, g32_0, g32_1, g32_2, g32_3, g32_4, g32_5⟩ := hQ32
    have sz32 : h24.size ≤ h32.size := K32.1
    have N32 := Fr.app N24 Nq32
    have lt32_1 : @LT.lt Nat _ it_32 h32.size := g32_0.lt
    refine own_go (st' := T32.setTop (mkF m 264 #[oR ab, oj pl, .second, oj pm, .second, oR s1, oR s2, oi 1, oR b15, oR b21, .val (.long (0 : Int64)), .second, oi 0, .unset, .unset] [(.ref it_32)])) (fun _ k => st32.trans k) ?_
    refine own_go (st' := T32.setTop (mkF m 266 #[oR ab, oj pl, .second, oj pm, .second, oR s1, oR s2, oi 1, oR b15, oR b21, .val (.long (0 : Int64)), .second, oi 0, oR it_32, .unset] [])) (fun _ k => XS.astore X32.here hx rfl (hb hby d27_264) rfl rfl (l' := #[oR ab, oj pl, .second, oj pm, .second, oR s1, oR s2, oi 1, oR b15, oR b21, .val (.long (0 : Int64)), .second, oi 0, oR it_32, .unset]) rfl k) ?_
    refine own_go (st' := T32.setTop (mkF m 268 #[oR ab, oj pl, .second, oj pm, .second, oR s1, oR s2, oi 1, oR b15, oR b21, .val (.long (0 : Int64)), .second, oi 0, oR it_32, .unset] [(.ref it_32)])) (fun _ k => XS.aload X32.here hx rfl (hb hby d27_266) rfl rfl k) ?_
    obtain ⟨cq34, kq34, q34a, q34b, q34c⟩ := isOf hZ e32 g32_0
    obtain ⟨_, _, ⟨T34, LC34, kC34, nC34⟩, -, X34, ⟨Lc34, hQ34, lq34, yq34, zq34⟩, st34⟩ := X32.interfaceBack hx (xi := oM41) (y := oM3) hown (mvT hZ (own_hw hw 366)) (mvT hZ (own_hw hw 367)) (mvT hZ (own_hw hw 368)) (mvT hZ (own_hw hw 369)) (mvT hZ (own_hw hw 370)) (mvT hZ (own_hw hw 371)) (mvT hZ (own_hw hw 372)) (mvT hZ (own_hw hw 373)) (by decide) (backOf (W := 0) (rhn_1 l Z a0 hw [] it_32 r2 h32 n0 (by omega) g32_4) hZ (own_hw hw 374) (own_hw hw 283) (by decide) (by decide)) q34a q34b q34c (g := (mkF m 268 #[oR ab, oj pl, .second, oj pm, .second, oR s1, oR s2, oi 1, oR b15, oR b21, .val (.long (0 : Int64)), .second, oi 0, oR it_32, .unset] [(.ref it_32)])) rfl (by rw [hml]; rfl) (Steps.refl _) (argsL := []) (rest := []) (lenOf pd_31 rfl) rfl (by show 2 * 0 + _ ≤ _; exact Nat.le_of_eq rfl) (hb hby d27_268) (fun _ _ => ⟨rfl, e32, (by decide : 12 + 0 ≤ _), (by decide : 24 + 0 ≤ _)⟩)
    dsimp only [Pt.U, Pt.locs, Pt.cells, Pt.slots] at X34 lq34 yq34 zq34 st34 hQ34
    subst lq34 yq34 zq34
    obtain ⟨rfl, Nq34, eq34⟩ := hQ34
    have N34 := Fr.app N32 Nq34
    refine own_go (st' := T34.setTop (mkF m 273 #[oR ab, oj pl, .second, oj pm, .second, oR s1, oR s2, oi 1, oR b15, oR b21, .val (.long (0 : Int64)), .second, oi 0, oR it_32, .unset] [(.int (1 : Int32))])) (fun _ k => st34.trans k) ?_
    have hc35 : ¬ ((1 : Int32) = (0 : Int32)) := by decide
    refine own_go (st' := T34.setTop (mkF m 276 #[oR ab, oj pl, .second, oj pm, .second, oR s1, oR s2, oi 1, oR b15, oR b21, .val (.long (0 : Int64)), .second, oi 0, oR it_32, .unset] [])) (fun _ k => XS.ifNo X34.here hx rfl (hb hby d27_273) rfl ((if0 _ _).trans (feq hc35).1) k) ?_
    refine own_go (st' := T34.setTop (mkF m 278 #[oR ab, oj pl, .second, oj pm, .second, oR s1, oR s2, oi 1, oR b15, oR b21, .val (.long (0 : Int64)), .second, oi 0, oR it_32, .unset] [(.ref it_32)])) (fun _ k => XS.aload X34.here hx rfl (hb hby d27_276) rfl rfl k) ?_
    have c37 : Fld Z h32 mc oS0 "modCount" "I" (.int (1 : Int32)) := (g24_4.keep K32 nin0)
    have c38 : Fld Z h32 r2 oS1 "right" oS2 .null := ((((fj12_13.ext E15).ext E21).keep K24 (ninS own_nq nin0)).keep K32 nin0)
    have c39 : Fld Z h32 r2 oS1 "parent" oS2 .null := ((((fj12_14.ext E15).ext E21).keep K24 (ninS own_nq nin0)).keep K32 nin0)
    obtain ⟨cq36, kq36, q36a, q36b, q36c⟩ := isOf hZ eq34 g32_0
    obtain ⟨_, _, ⟨T36, LC36, kC36, nC36⟩, -, X36, ⟨Lc36, hQ36, lq36, yq36, zq36⟩, st36⟩ := X34.interfaceBack hx (xi := oM42) (y := oM30) hown (mvT hZ (own_hw hw 295)) (mvT hZ (own_hw hw 296)) (mvT hZ (own_hw hw 297)) (mvT hZ (own_hw hw 375)) (mvT hZ (own_hw hw 376)) (mvT hZ (own_hw hw 377)) (mvT hZ (own_hw hw 378)) (mvT hZ (own_hw hw 373)) (by decide) (backOf (W := 0) (rm48 l Z a0 hw [] it_32 mc r2 h32 n0 (by omega) g32_0 g32_1 g32_2 g32_3 g32_4 c37 c38 c39 (by omega) own_nr own_nr) hZ (own_hw hw 379) (own_hw hw 354) (by decide) (by decide)) q36a q36b q36c (g := (mkF m 278 #[oR ab, oj pl, .second, oj pm, .second, oR s1, oR s2, oi 1, oR b15, oR b21, .val (.long (0 : Int64)), .second, oi 0, oR it_32, .unset] [(.ref it_32)])) rfl (by rw [hml]; rfl) (Steps.refl _) (argsL := []) (rest := []) (lenOf pd_32 rfl) rfl (by show 2 * 0 + _ ≤ _; exact Nat.le_of_eq rfl) (hb hby d27_278) (fun _ _ => ⟨rfl, eq34, (by decide : 12 + 0 ≤ _), (by decide : 24 + 0 ≤ _)⟩)
    dsimp only [Pt.U, Pt.locs, Pt.cells, Pt.slots] at X36 lq36 yq36 zq36 st36 hQ36
    subst lq36 yq36 zq36
    obtain ⟨h36, e36⟩ : ∃ z, T36.heap = z := ⟨_, rfl⟩
    rw [e36] at hQ36
    obtain ⟨rfl, Nq36, K36, g36_0, g36_1, g36_2, g36_3, g36_4⟩ := hQ36
    have sz36 : h32.size ≤ h36.size := K36.1
    have N36 := Fr.app N34 Nq36
    have lt36_1 : @LT.lt Nat _ it_32 h36.size := g36_0.lt
    refine own_go (st' := T36.setTop (mkF m 283 #[oR ab, oj pl, .second, oj pm, .second, oR s1, oR s2, oi 1, oR b15, oR b21, .val (.long (0 : Int64)), .second, oi 0, oR it_32, .unset] [(.ref r2)])) (fun _ k => st36.trans k) ?_
    have c41 : Exa Z h36 r2 oS1 := (((((fj12_9.ext E15).ext E21).keep K24).keep K32).keep K36)
    obtain ⟨T40, X40, e40, st40⟩ := castY X36 hx hZ hown (own_hw hw 388) e36 (Ins.of_exa c41 (own_hw hw 389)) (g := (mkF m 283 #[oR ab, oj pl, .second, oj pm, .second, oR s1, oR s2, oi 1, oR b15, oR b21, .val (.long (0 : Int64)), .second, oi 0, oR it_32, .unset] [(.ref r2)])) rfl rfl (hb hby d27_283)
    refine own_go (st' := T40.setTop (mkF m 286 #[oR ab, oj pl, .second, oj pm, .second, oR s1, oR s2, oi 1, oR b15, oR b21, .val (.long (0 : Int64)), .second, oi 0, oR it_32, .unset] [(.ref r2)])) (st40) ?_
    refine own_go (st' := T40.setTop (mkF m 288 #[oR ab, oj pl, .second, oj pm, .second, oR s1, oR s2, oi 1, oR b15, oR b21, .val (.long (0 : Int64)), .second, oi 0, oR it_32, oR r2] [])) (fun _ k => XS.astore X40.here hx rfl (hb hby d27_286) rfl rfl (l' := #[oR ab, oj pl, .second, oj pm, .second, oR s1, oR s2, oi 1, oR b15, oR b21, .val (.long (0 : Int64)), .second, oi 0, oR it_32, oR r2]) rfl k) ?_
    refine own_go (st' := T40.setTop (mkF m 290 #[oR ab, oj pl, .second, oj pm, .second, oR s1, oR s2, oi 1, oR b15, oR b21, .val (.long (0 : Int64)), .second, oi 0, oR it_32, oR r2] [(.ref b15)])) (fun _ k => XS.aload X40.here hx rfl (hb hby d27_288) rfl rfl k) ?_
    refine own_go (st' := T40.setTop (mkF m 292 #[oR ab, oj pl, .second, oj pm, .second, oR s1, oR s2, oi 1, oR b15, oR b21, .val (.long (0 : Int64)), .second, oi 0, oR it_32, oR r2] [(.int (0 : Int32)), (.ref b15)])) (fun _ k => XS.iload X40.here hx rfl (hb hby d27_290) rfl k) ?_
    refine own_go (st' := T40.setTop (mkF m 294 #[oR ab, oj pl, .second, oj pm, .second, oR s1, oR s2, oi 1, oR b15, oR b21, .val (.long (0 : Int64)), .second, oi 0, oR it_32, oR r2] [(.ref r2), (.int (0 : Int32)), (.ref b15)])) (fun _ k => XS.aload X40.here hx rfl (hb hby d27_292) rfl rfl k) ?_
    have c43 : Fld Z h36 r2 oS1 "key" oS8 (.ref bk) := (((((fj12_10.ext E15).ext E21).keep K24 (ninS own_nq nin0)).keep K32 nin0).keep K36 (ninS own_nq nin0))
    obtain ⟨cq42, kq42, q42a, q42b, q42c⟩ := isOf hZ e40 c41
    obtain ⟨_, _, ⟨T42, LC42, kC42, nC42⟩, -, X42, ⟨Lc42, hQ42, lq42, yq42, zq42⟩, st42⟩ := X40.interfaceBack hx (xi := oM68) (y := oM33) hown (mvT hZ (own_hw hw 390)) (mvT hZ (own_hw hw 391)) (mvT hZ (own_hw hw 392)) (mvT hZ (own_hw hw 393)) (mvT hZ (own_hw hw 394)) (mvT hZ (own_hw hw 395)) (mvT hZ (own_hw hw 396)) (mvT hZ (own_hw hw 389)) (by decide) (backOf (W := 2) (rm50 l Z a0 hw [] r2 bk h36 n0 (by omega) c43) hZ (own_hw hw 397) (own_hw hw 174) (by decide) (by decide)) q42a q42b q42c (g := (mkF m 294 #[oR ab, oj pl, .second, oj pm, .second, oR s1, oR s2, oi 1, oR b15, oR b21, .val (.long (0 : Int64)), .second, oi 0, oR it_32, oR r2] [(.ref r2), (.int (0 : Int32)), (.ref b15)])) rfl (by rw [hml]; rfl) (Steps.refl _) (argsL := []) (rest := [(.int (0 : Int32)), (.ref b15)]) (lenOf pd_32 rfl) rfl (by show 2 * 0 + _ ≤ _; exact Nat.le_of_eq rfl) (hb hby d27_294) (fun _ _ => ⟨rfl, e40, (by decide : 12 + 0 ≤ _), (by decide : 24 + 0 ≤ _)⟩)
    dsimp only [Pt.U, Pt.locs, Pt.cells, Pt.slots] at X42 lq42 yq42 zq42 st42 hQ42
    subst lq42 yq42 zq42
    obtain ⟨rfl, Nq42, eq42⟩ := hQ42
    have N42 := Fr.app N36 Nq42
    refine own_go (st' := T42.setTop (mkF m 299 #[oR ab, oj pl, .second, oj pm, .second, oR s1, oR s2, oi 1, oR b15, oR b21, .val (.long (0 : Int64)), .second, oi 0, oR it_32, oR r2] [(.ref bk), (.int (0 : Int32)), (.ref b15)])) (fun _ k => st42.trans k) ?_
    have c45 : Exa Z h36 bk oS3 := (((((fj12_15.ext E15).ext E21).keep K24).keep K32).keep K36)
    obtain ⟨T44, X44, e44, st44⟩ := castY X42 hx hZ hown (own_hw hw 95) eq42 (Ins.self c45) (g := (mkF m 299 #[oR ab, oj pl, .second, oj pm, .second, oR s1, oR s2, oi 1, oR b15, oR b21, .val (.long (0 : Int64)), .second, oi 0, oR it_32, oR r2] [(.ref bk), (.int (0 : Int32)), (.ref b15)])) rfl rfl (hb hby d27_299)
    refine own_go (st' := T44.setTop (mkF m 302 #[oR ab, oj pl, .second, oj pm, .second, oR s1, oR s2, oi 1, oR b15, oR b21, .val (.long (0 : Int64)), .second, oi 0, oR it_32, oR r2] [(.ref bk), (.int (0 : Int32)), (.ref b15)])) (st44) ?_
    have c47 : Fld Z h36 bk oS3 "value" "J" (.long pm) := (((((fj12_16.ext E15).ext E21).keep K24 (ninS own_nq nin0)).keep K32 nin0).keep K36 (ninS own_nq nin0))
    obtain ⟨cq46, kq46, q46a, q46b, q46c⟩ := isOf hZ e44 c45
    obtain ⟨_, _, ⟨T46, LC46, kC46, nC46⟩, -, X46, ⟨Lc46, hQ46, lq46, yq46, zq46⟩, st46⟩ := X44.virtualBack hx (y := oM0) (z := oM0) hown (mvT hZ (own_hw hw 97)) (mvT hZ (own_hw hw 98)) (notFace_of_selects (args := #[]) (mvT hZ (own_hw hw 100))) (mvT hZ (own_hw hw 100)) (mvT hZ (own_hw hw 99)) (by decide) (backOf (W := 2) (rm13 l Z a0 hw [] bk pm h36 n0 (by omega) c45 c47) hZ (own_hw hw 101) (own_hw hw 53) (by decide) (by decide)) q46a q46c (g := (mkF m 302 #[oR ab, oj pl, .second, oj pm, .second, oR s1, oR s2, oi 1, oR b15, oR b21, .val (.long (0 : Int64)), .second, oi 0, oR it_32, oR r2] [(.ref bk), (.int (0 : Int32)), (.ref b15)])) rfl (by rw [hml]; rfl) (Steps.refl _) (argsL := []) (rest := [(.int (0 : Int32)), (.ref b15)]) (lenOf pd_16 rfl) rfl (by show 2 * 0 + _ ≤ _; exact Nat.le_of_eq rfl) (hb hby d27_302) (fun _ _ => ⟨rfl, e44, (by decide : 12 + 0 ≤ _), (by decide : 24 + 0 ≤ _)⟩)
    dsimp only [Pt.U, Pt.locs, Pt.cells, Pt.slots] at X46 lq46 yq46 zq46 st46 hQ46
    subst lq46 yq46 zq46
    obtain ⟨rfl, Nq46, eq46⟩ := hQ46
    have N46 := Fr.app N42 Nq46
    refine own_go (st' := T46.setTop (mkF m 305 #[oR ab, oj pl, .second, oj pm, .second, oR s1, oR s2, oi 1, oR b15, oR b21, .val (.long (0 : Int64)), .second, oi 0, oR it_32, oR r2] [(.long pm), (.int (0 : Int32)), (.ref b15)])) (fun _ k => st46.trans k) ?_
    have c48 : Arv Z h36 b15 k15 .long (1 : Int32) [(.long (0 : Int64))] (.long (0 : Int64)) := ((((v15.ext E21).keep K24 (ninS own_nq nin0)).keep K32 nin0).keep K36 (ninS own_nq nin0))
    obtain ⟨cl49, Ar49, qc49, S49, M49, H49, G49⟩ := id c48
    have hin49 : ¬ ((0 : Int32) < 0 ∨ cl49.slots.size ≤ ((0 : Int32)).toNatClampNeg) := (inb_of S49 ⟨by decide, by decide⟩)
    obtain ⟨T49, h49, X49, e49, W49, st49⟩ := stJ X46 hx hZ eq46 Ar49 (j := (0 : Int32)) hin49 (g := (mkF m 305 #[oR ab, oj pl, .second, oj pm, .second, oR s1, oR s2, oi 1, oR b15, oR b21, .val (.long (0 : Int64)), .second, oi 0, oR it_32, oR r2] [(.long pm), (.int (0 : Int32)), (.ref b15)])) rfl rfl (hb hby d27_305)
    have sz49 : h49.size = h36.size := W49.size
    have N49 := Fr.snoc X49 N46 (by omega)
    have v49 : Arv Z h49 b15 k15 .long (1 : Int32) [(.long pm)] (.long (0 : Int64)) := Arv.set Ar49 qc49 S49 M49 H49 G49 rfl W49 0 rfl (Nat.le_of_ble_eq_true rfl)
    refine own_go (st' := T49.setTop (mkF m 306 #[oR ab, oj pl, .second, oj pm, .second, oR s1, oR s2, oi 1, oR b15, oR b21, .val (.long (0 : Int64)), .second, oi 0, oR it_32, oR r2] [])) (st49) ?_
    refine own_go (st' := T49.setTop (mkF m 308 #[oR ab, oj pl, .second, oj pm, .second, oR s1, oR s2, oi 1, oR b15, oR b21, .val (.long (0 : Int64)), .second, oi 0, oR it_32, oR r2] [(.ref b21)])) (fun _ k => XS.aload X49.here hx rfl (hb hby d27_306) rfl rfl k) ?_
    refine own_go (st' := T49.setTop (mkF m 310 #[oR ab, oj pl, .second, oj pm, .second, oR s1, oR s2, oi 1, oR b15, oR b21, .val (.long (0 : Int64)), .second, oi 0, oR it_32, oR r2] [(.int (0 : Int32)), (.ref b21)])) (fun _ k => XS.iload X49.here hx rfl (hb hby d27_308) rfl k) ?_
    refine own_go (st' := T49.setTop (mkF m 312 #[oR ab, oj pl, .second, oj pm, .second, oR s1, oR s2, oi 1, oR b15, oR b21, .val (.long (0 : Int64)), .second, oi 0, oR it_32, oR r2] [(.ref r2), (.int (0 : Int32)), (.ref b21)])) (fun _ k => XS.aload X49.here hx rfl (hb hby d27_310) rfl rfl k) ?_
    have c51 : Fld Z h49 r2 oS1 "value" oS8 (.ref bv) := ((((((fj12_11.ext E15).ext E21).keep K24 (ninS own_nq nin0)).keep K32 nin0).keep K36 (ninS own_nq nin0)).other W49 (Or.inl own_nq))
    have c52 : Exa Z h49 r2 oS1 := (c41.wr W49)
    obtain ⟨cq50, kq50, q50a, q50b, q50c⟩ := isOf hZ e49 c52
    obtain ⟨_, _, ⟨T50, LC50, kC50, nC50⟩, -, X50, ⟨Lc50, hQ50, lq50, yq50, zq50⟩, st50⟩ := X49.interfaceBack hx (xi := oM69) (y := oM34) hown (mvT hZ (own_hw hw 398)) (mvT hZ (own_hw hw 399)) (mvT hZ (own_hw hw 400)) (mvT hZ (own_hw hw 401)) (mvT hZ (own_hw hw 402)) (mvT hZ (own_hw hw 403)) (mvT hZ (own_hw hw 404)) (mvT hZ (own_hw hw 389)) (by decide) (backOf (W := 2) (rm51 l Z a0 hw [] r2 bv h49 n0 (by omega) c51) hZ (own_hw hw 405) (own_hw hw 174) (by decide) (by decide)) q50a q50b q50c (g := (mkF m 312 #[oR ab, oj pl, .second, oj pm, .second, oR s1, oR s2, oi 1, oR b15, oR b21, .val (.long (0 : Int64)), .second, oi 0, oR it_32, oR r2] [(.ref r2), (.int (0 : Int32)), (.ref b21)])) rfl (by rw [hml]; rfl) (Steps.refl _) (argsL := []) (rest := [(.int (0 : Int32)), (.ref b21)]) (lenOf pd_32 rfl) rfl (by show 2 * 0 + _ ≤ _; exact Nat.le_of_eq rfl) (hb hby d27_312) (fun _ _ => ⟨rfl, e49, (by decide : 12 + 0 ≤ _), (by decide : 24 + 0 ≤ _)⟩)
    dsimp only [Pt.U, Pt.locs, Pt.cells, Pt.slots] at X50 lq50 yq50 zq50 st50 hQ50
    subst lq50 yq50 zq50
    obtain ⟨rfl, Nq50, eq50⟩ := hQ50
    have N50 := Fr.app N49 Nq50
    refine own_go (st' := T50.setTop (mkF m 317 #[oR ab, oj pl, .second, oj pm, .second, oR s1, oR s2, oi 1, oR b15, oR b21, .val (.long (0 : Int64)), .second, oi 0, oR it_32, oR r2] [(.ref bv), (.int (0 : Int32)), (.ref b21)])) (fun _ k => st50.trans k) ?_
    have c54 : Exa Z h49 bv oS3 := ((((((fj12_17.ext E15).ext E21).keep K24).keep K32).keep K36).wr W49)
    obtain ⟨T53, X53, e53, st53⟩ := castY X50 hx hZ hown (own_hw hw 95) eq50 (Ins.self c54) (g := (mkF m 317 #[oR ab, oj pl, .second, oj pm, .second, oR s1, oR s2, oi 1, oR b15, oR b21, .val (.long (0 : Int64)), .second, oi 0, oR it_32, oR r2] [(.ref bv), (.int (0 : Int32)), (.ref b21)])) rfl rfl (hb hby d27_317)
    refine own_go (st' := T53.setTop (mkF m 320 #[oR ab, oj pl, .second, oj pm, .second, oR s1, oR s2, oi 1, oR b15, oR b21, .val (.long (0 : Int64)), .second, oi 0, oR it_32, oR r2] [(.ref bv), (.int (0 : Int32)), (.ref b21)])) (st53) ?_
    have c56 : Fld Z h49 bv oS3 "value" "J" (.long pc) := ((((((fj12_18.ext E15).ext E21).keep K24 (ninS own_nq nin0)).keep K32 nin0).keep K36 (ninS own_nq nin0)).other W49 (Or.inl own_nq))
    obtain ⟨cq55, kq55, q55a, q55b, q55c⟩ := isOf hZ e53 c54
    obtain ⟨_, _, ⟨T55, LC55, kC55, nC55⟩, -, X55, ⟨Lc55, hQ55, lq55, yq55, zq55⟩, st55⟩ := X53.virtualBack hx (y := oM0) (z := oM0) hown (mvT hZ (own_hw hw 97)) (mvT hZ (own_hw hw 98)) (notFace_of_selects (args := #[]) (mvT hZ (own_hw hw 100))) (mvT hZ (own_hw hw 100)) (mvT hZ (own_hw hw 99)) (by decide) (backOf (W := 2) (rm13 l Z a0 hw [] bv pc h49 n0 (by omega) c54 c56) hZ (own_hw hw 101) (own_hw hw 53) (by decide) (by decide)) q55a q55c (g := (mkF m 320 #[oR ab, oj pl, .second, oj pm, .second, oR s1, oR s2, oi 1, oR b15, oR b21, .val (.long (0 : Int64)), .second, oi 0, oR it_32, oR r2] [(.ref bv), (.int (0 : Int32)), (.ref b21)])) rfl (by rw [hml]; rfl) (Steps.refl _) (argsL := []) (rest := [(.int (0 : Int32)), (.ref b21)]) (lenOf pd_16 rfl) rfl (by show 2 * 0 + _ ≤ _; exact Nat.le_of_eq rfl) (hb hby d27_320) (fun _ _ => ⟨rfl, e53, (by decide : 12 + 0 ≤ _), (by decide : 24 + 0 ≤ _)⟩)
    dsimp only [Pt.U, Pt.locs, Pt.cells, Pt.slots] at X55 lq55 yq55 zq55 st55 hQ55
    subst lq55 yq55 zq55
    obtain ⟨rfl, Nq55, eq55⟩ := hQ55
    have N55 := Fr.app N50 Nq55
    refine own_go (st' := T55.setTop (mkF m 323 #[oR ab, oj pl, .second, oj pm, .second, oR s1, oR s2, oi 1, oR b15, oR b21, .val (.long (0 : Int64)), .second, oi 0, oR it_32, oR r2] [(.long pc), (.int (0 : Int32)), (.ref b21)])) (fun _ k => st55.trans k) ?_
    have c57 : Arv Z h49 b21 k21 .long (1 : Int32) [(.long (0 : Int64))] (.long (0 : Int64)) := ((((v21.keep K24 (ninS own_nq nin0)).keep K32 nin0).keep K36 (ninS own_nq nin0)).other W49 own_nq)
    obtain ⟨cl58, Ar58, qc58, S58, M58, H58, G58⟩ := id c57
    have hin58 : ¬ ((0 : Int32) < 0 ∨ cl58.slots.size ≤ ((0 : Int32)).toNatClampNeg) := (inb_of S58 ⟨by decide, by decide⟩)
    obtain ⟨T58, h58, X58, e58, W58, st58⟩ := stJ X55 hx hZ eq55 Ar58 (j := (0 : Int32)) hin58 (g := (mkF m 323 #[oR ab, oj pl, .second, oj pm, .second, oR s1, oR s2, oi 1, oR b15, oR b21, .val (.long (0 : Int64)), .second, oi 0, oR it_32, oR r2] [(.long pc), (.int (0 : Int32)), (.ref b21)])) rfl rfl (hb hby d27_323)
    have sz58 : h58.size = h49.size := W58.size
    have N58 := Fr.snoc X58 N55 (by omega)
    have v58 : Arv Z h58 b21 k21 .long (1 : Int32) [(.long pc)] (.long (0 : Int64)) := Arv.set Ar58 qc58 S58 M58 H58 G58 rfl W58 0 rfl (Nat.le_of_ble_eq_true rfl)
    refine own_go (st' := T58.setTop (mkF m 324 #[oR ab, oj pl, .second, oj pm, .second, oR s1, oR s2, oi 1, oR b15, oR b21, .val (.long (0 : Int64)), .second, oi 0, oR it_32, oR r2] [])) (st58) ?_
    refine own_go (st' := T58.setTop (mkF m 326 #[oR ab, oj pl, .second, oj pm, .second, oR s1, oR s2, oi 1, oR b15, oR b21, .val (.long (0 : Int64)), .second, oi 0, oR it_32, oR r2] [(.long (0 : Int64))])) (fun _ k => XS.lload X58.here hx rfl (hb hby d27_324) rfl k) ?_
    refine own_go (st' := T58.setTop (mkF m 328 #[oR ab, oj pl, .second, oj pm, .second, oR s1, oR s2, oi 1, oR b15, oR b21, .val (.long (0 : Int64)), .second, oi 0, oR it_32, oR r2] [(.ref b21), (.long (0 : Int64))])) (fun _ k => XS.aload X58.here hx rfl (hb hby d27_326) rfl rfl k) ?_
    refine own_go (st' := T58.setTop (mkF m 330 #[oR ab, oj pl, .second, oj pm, .second, oR s1, oR s2, oi 1, oR b15, oR b21, .val (.long (0 : Int64)), .second, oi 0, oR it_32, oR r2] [(.int (0 : Int32)), (.ref b21), (.long (0 : Int64))])) (fun _ k => XS.iload X58.here hx rfl (hb hby d27_328) rfl k) ?_
    obtain ⟨cl59, Ar59, -, S59, M59, H59, -⟩ := id v58
    have hin59 : ¬ ((0 : Int32) < 0 ∨ cl59.slots.size ≤ ((0 : Int32)).toNatClampNeg) := (inb_of S59 ⟨by decide, by decide⟩)
    have hat59 : cl59.slots[((0 : Int32)).toNatClampNeg]? = some (.long pc) := (H59.at hin59 rfl)
    refine own_go (st' := T58.setTop (mkF m 331 #[oR ab, oj pl, .second, oj pm, .second, oR s1, oR s2, oi 1, oR b15, oR b21, .val (.long (0 : Int64)), .second, oi 0, oR it_32, oR r2] [(.long pc), (.long (0 : Int64))])) (X58.laload hx (j := (0 : Int32)) (v := (.long pc)) (by rw [e58]; exact Ar59.1) (State.isArrayOf_alike hZ.alike Ar59.2.1) Ar59.2.2 hin59 hat59 (g := (mkF m 330 #[oR ab, oj pl, .second, oj pm, .second, oR s1, oR s2, oi 1, oR b15, oR b21, .val (.long (0 : Int64)), .second, oi 0, oR it_32, oR r2] [(.int (0 : Int32)), (.ref b21), (.long (0 : Int64))])) rfl rfl (hb hby d27_330)) ?_
    obtain ⟨_, _, ⟨T60, LC60, kC60, nC60⟩, -, X60, ⟨Lc60, hQ60, lq60, yq60, zq60⟩, st60⟩ := Jvm.LawKit.callS X58 hx (y := oM36) hown (mvT hZ (own_hw hw 406)) (mvT hZ (own_hw hw 407)) (mvT hZ (own_hw hw 408)) (mvT hZ (own_hw hw 409)) (by decide) (backOf (W := 0) (rm52 l Z a0 hw [] pc h58 n0 (by omega) (by assumption)) hZ (own_hw hw 409) (own_hw hw 408) (by decide) (by decide)) (g := (mkF m 331 #[oR ab, oj pl, .second, oj pm, .second, oR s1, oR s2, oi 1, oR b15, oR b21, .val (.long (0 : Int64)), .second, oi 0, oR it_32, oR r2] [(.long pc), (.long (0 : Int64))])) rfl (by rw [hml]; rfl) (argsL := [(.long (0 : Int64)), (.long pc)]) (rest := []) (lenOf pd_28 rfl) rfl (by show 2 * 0 + _ ≤ _; exact Nat.le_of_eq rfl) (hb hby d27_331) (fun _ _ => ⟨rfl, e58, (by decide : 12 + 0 ≤ _), (by decide : 24 + 0 ≤ _)⟩)
    dsimp only [Pt.U, Pt.locs, Pt.cells, Pt.slots] at X60 lq60 yq60 zq60 st60 hQ60
    subst lq60 yq60 zq60
    obtain ⟨rfl, Nq60, eq60⟩ := hQ60
    have N60 := Fr.app N58 Nq60
    refine own_go (st' := T60.setTop (mkF m 334 #[oR ab, oj pl, .second, oj pm, .second, oR s1, oR s2, oi 1, oR b15, oR b21, .val (.long (0 : Int64)), .second, oi 0, oR it_32, oR r2] [(.long ((0 : Int64) + pc))])) (fun t k => st60 t k) ?_
    refine own_go (st' := T60.setTop (mkF m 336 #[oR ab, oj pl, .second, oj pm, .second, oR s1, oR s2, oi 1, oR b15, oR b21, .val (.long ((0 : Int64) + pc)), .second, oi 0, oR it_32, oR r2] [])) (fun _ k => XS.lstore X60.here hx rfl (hb hby d27_334) rfl (l' := #[oR ab, oj pl, .second, oj pm, .second, oR s1, oR s2, oi 1, oR b15, oR b21, .val (.long ((0 : Int64) + pc)), .second, oi 0, oR it_32, oR r2]) rfl k) ?_
    refine own_go (st' := T60.setTop (mkF m 339 #[oR ab, oj pl, .second, oj pm, .second, oR s1, oR s2, oi 1, oR b15, oR b21, .val (.long ((0 : Int64) + pc)), .second, oi 1, oR it_32, oR r2] [])) (fun _ k => XS.iinc X60.here hx rfl (hb hby d27_336) rfl (l' := #[oR ab, oj pl, .second, oj pm, .second, oR s1, oR s2, oi 1, oR b15, oR b21, .val (.long ((0 : Int64) + pc)), .second, oi 1, oR it_32, oR r2]) (by rw [show ((0 : Int32) + Int32.ofInt 1) = (1 : Int32) by decide]; rfl) k) ?_
    refine own_go (st' := T60.setTop (mkF m 266 #[oR ab, oj pl, .second, oj pm, .second, oR s1, oR s2, oi 1, oR b15, oR b21, .val (.long ((0 : Int64) + pc)), .second, oi 1, oR it_32, oR r2] [])) (fun _ k => XS.goto X60.here hx rfl (pc0 := 339) (pc' := 266) rfl (hb hby d27_339) (by decide) (by decide) k) ?_
    refine own_go (st' := T60.setTop (mkF m 268 #[oR ab, oj pl, .second, oj pm, .second, oR s1, oR s2, oi 1, oR b15, oR b21, .val (.long ((0 : Int64) + pc)), .second, oi 1, oR it_32, oR r2] [(.ref it_32)])) (fun _ k => XS.aload X60.here hx rfl (hb hby d27_266) rfl rfl k) ?_
    have c62 : Fld Z h58 it_32 oS4 "next" oS2 .null := ((g36_4.other W49 (Or.inl own_nq)).other W58 (Or.inl own_nq))
    have c63 : Exa Z h58 it_32 oS22 := ((g36_0.wr W49).wr W58)
    obtain ⟨cq61, kq61, q61a, q61b, q61c⟩ := isOf hZ eq60 c63
    obtain ⟨_, _, ⟨T61, LC61, kC61, nC61⟩, -, X61, ⟨Lc61, hQ61, lq61, yq61, zq61⟩, st61⟩ := X60.interfaceBack hx (xi := oM41) (y := oM3) hown (mvT hZ (own_hw hw 366)) (mvT hZ (own_hw hw 367)) (mvT hZ (own_hw hw 368)) (mvT hZ (own_hw hw 369)) (mvT hZ (own_hw hw 370)) (mvT hZ (own_hw hw 371)) (mvT hZ (own_hw hw 372)) (mvT hZ (own_hw hw 373)) (by decide) (backOf (W := 0) (rhn_0 l Z a0 hw [] it_32 h58 n0 (by omega) c62) hZ (own_hw hw 374) (own_hw hw 283) (by decide) (by decide)) q61a q61b q61c (g := (mkF m 268 #[oR ab, oj pl, .second, oj pm, .second, oR s1, oR s2, oi 1, oR b15, oR b21, .val (.long ((0 : Int64) + pc)), .second, oi 1, oR it_32, oR r2] [(.ref it_32)])) rfl (by rw [hml]; rfl) (Steps.refl _) (argsL := []) (rest := []) (lenOf pd_31 rfl) rfl (by show 2 * 0 + _ ≤ _; exact Nat.le_of_eq rfl) (hb hby d27_268) (fun _ _ => ⟨rfl, eq60, (by decide : 12 + 0 ≤ _), (by decide : 24 + 0 ≤ _)⟩)
    dsimp only [Pt.U, Pt.locs, Pt.cells, Pt.slots] at X61 lq61 yq61 zq61 st61 hQ61
    subst lq61 yq61 zq61
    obtain ⟨rfl, Nq61, eq61⟩ := hQ61
    have N61 := Fr.app N60 Nq61
    refine own_go (st' := T61.setTop (mkF m 273 #[oR ab, oj pl, .second, oj pm, .second, oR s1, oR s2, oi 1, oR b15, oR b21, .val (.long ((0 : Int64) + pc)), .second, oi 1, oR it_32, oR r2] [(.int (0 : Int32))])) (fun _ k => st61.trans k) ?_
    have hc64 : (0 : Int32) = (0 : Int32) := by decide
    refine own_go (st' := T61.setTop (mkF m 342 #[oR ab, oj pl, .second, oj pm, .second, oR s1, oR s2, oi 1, oR b15, oR b21, .val (.long ((0 : Int64) + pc)), .second, oi 1, oR it_32, oR r2] [])) (fun _ k => XS.ifYes X61.here hx rfl (pc0 := 273) (pc' := 342) rfl (hb hby d27_273) rfl ((if0 _ _).trans (teq hc64).1) (by decide) (by decide) k) ?_
    have c65 : Arv Z h58 s1 k1_ .long (1 : Int32) [(.long pl)] (.long (0 : Int64)) := (((((((fj12_19.ext E15).ext E21).keep K24 (ninS own_nq nin0)).keep K32 nin0).keep K36 (ninS own_nq nin0)).other W49 own_nq).other W58 own_nq)
    have c66 : Arv Z h58 b15 k15 .long (1 : Int32) [(.long pm)] (.long (0 : Int64)) := (v49.other W58 own_nq)
    exact J342_1 _ _ _ s1 s2 b15 b21 it_32 k1_ k15 X61 eq61 N61 (by omega) (((((((Kj12.ext E15).ext E21).trans K24 (allS (P := fun x => x ∈ [ms, mc] ∨ h0.size ≤ x) (Or.inl (List.mem_of_getElem? (i := 1) rfl)) all0)).trans K32 all0).trans K36 (allS (P := fun x => x ∈ [ms, mc] ∨ h0.size ≤ x) (Or.inr (by omega)) all0)).wr W49 (Or.inr (by omega))).wr W58 (Or.inr (by omega))) c65 c66
  have J109_67 : ∀ (Tj67 : State) (lj67 : List Loc) (hj67 : Heap) (ks1 : Addr) (ks : Addr) (Xj67 : Stand p l e ({ frames := 6, cells := 13, slots := 28, locals := 76 } : Room) s m #[(.ref ab)] below meth c Tj67 lj67 4 10) (ej67 : Tj67.heap = hj67) (Nj67 : Fr n0 lj67)  (szj67 : h0.size ≤ hj67.size) (Kj67 : Keep h0 hj67 [ms, mc]) (fj67_0 : Exa Z hj67 ab oS5) (fj67_1 : Fld Z hj67 ab oS5 "stock" oS13 (.ref ms)) (fj67_2 : Fld Z hj67 ab oS5 "counts" oS13 (.ref mc)) (fj67_3 : Exa Z hj67 ms oS0) (fj67_4 : Fld Z hj67 ms oS0 "comparator" oS6 (.ref cmp)) (fj67_5 : Fld Z hj67 ms oS0 "root" oS2 (.ref r1)) (fj67_6 : Fld Z hj67 ms oS0 "size" "I" (.int (1 : Int32))) (fj67_7 : Fld Z hj67 ms oS0 "modCount" "I" (.int (1 : Int32))) (fj67_8 : Fld Z hj67 ms oS0 oS10 oS11 (.ref ks1)) (fj67_9 : Fld Z hj67 ms oS0 "entrySet" oS12 .null) (fj67_10 : Exa Z hj67 r1 oS1) (fj67_11 : Fld Z hj67 r1 oS1 "key" oS8 (.ref ak)) (fj67_12 : Fld Z hj67 r1 oS1 "value" oS8 (.ref av)) (fj67_13 : Fld Z hj67 r1 oS1 "left" oS2 .null) (fj67_14 : Fld Z hj67 r1 oS1 "right" oS2 .null) (fj67_15 : Fld Z hj67 r1 oS1 "parent" oS2 .null) (fj67_16 : Exa Z hj67 ak oS3) (fj67_17 : Fld Z hj67 ak oS3 "value" "J" (.long pl)) (fj67_18 : Exa Z hj67 av oS3) (fj67_19 : Fld Z hj67 av oS3 "value" "J" (.long (9223372036854775807 : Int64))) (fj67_20 : Exa Z hj67 mc oS0) (fj67_21 : Fld Z hj67 mc oS0 "comparator" oS6 (.ref cmp)) (fj67_22 : Fld Z hj67 mc oS0 "root" oS2 (.ref r2)) (fj67_23 : Fld Z hj67 mc oS0 "size" "I" (.int (1 : Int32))) (fj67_24 : Fld Z hj67 mc oS0 "modCount" "I" (.int (1 : Int32))) (fj67_25 : Fld Z hj67 mc oS0 oS10 oS11 (.ref ks)) (fj67_26 : Fld Z hj67 mc oS0 "entrySet" oS12 .null) (fj67_27 : Exa Z hj67 r2 oS1) (fj67_28 : Fld Z hj67 r2 oS1 "key" oS8 (.ref bk)) (fj67_29 : Fld Z hj67 r2 oS1 "value" oS8 (.ref bv)) (fj67_30 : Fld Z hj67 r2 oS1 "left" oS2 .null) (fj67_31 : Fld Z hj67 r2 oS1 "right" oS2 .null) (fj67_32 : Fld Z hj67 r2 oS1 "parent" oS2 .null) (fj67_33 : Exa Z hj67 bk oS3) (fj67_34 : Fld Z hj67 bk oS3 "value" "J" (.long pm)) (fj67_35 : Exa Z hj67 bv oS3) (fj67_36 : Fld Z hj67 bv oS3 "value" "J" (.long pc)), own_Go p.tables e below P (Tj67.setTop (mkF m 109 #[oR ab, oj pl, .second, oj pm, .second, .unset, .unset, .unset, .unset, .unset, .unset, .unset, .unset, .unset, .unset] [])) := by as_aux_lemma =>
    intro Tj67 lj67 hj67 ks1 ks Xj67 ej67 Nj67 szj67 Kj67 fj67_0 fj67_1 fj67_2 fj67_3 fj67_4 fj67_5 fj67_6 fj67_7 fj67_8 fj67_9 fj67_10 fj67_11 fj67_12 fj67_13 fj67_14 fj67_15 fj67_16 fj67_17 fj67_18 fj67_19 fj67_20 fj67_21 fj67_22 fj67_23 fj67_24 fj67_25 fj67_26 fj67_27 fj67_28 fj67_29 fj67_30 fj67_31 fj67_32 fj67_33 fj67_34 fj67_35 fj67_36
    have ltj67_0 : @LT.lt Nat _ ab hj67.size := fj67_0.lt
    have ltj67_3 : @LT.lt Nat _ ms hj67.size := fj67_3.lt
    have ltj67_10 : @LT.lt Nat _ r1 hj67.size := fj67_10.lt
    have ltj67_16 : @LT.lt Nat _ ak hj67.size := fj67_16.lt
    have ltj67_18 : @LT.lt Nat _ av hj67.size := fj67_18.lt
    have ltj67_20 : @LT.lt Nat _ mc hj67.size := fj67_20.lt
    have ltj67_27 : @LT.lt Nat _ r2 hj67.size := fj67_27.lt
    have ltj67_33 : @LT.lt Nat _ bk hj67.size := fj67_33.lt
    have ltj67_35 : @LT.lt Nat _ bv hj67.size := fj67_35.lt
    refine own_go (st' := Tj67.setTop (mkF m 110 #[oR ab, oj pl, .second, oj pm, .second, .unset, .unset, .unset, .unset, .unset, .unset, .unset, .unset, .unset, .unset] [(.ref ab)])) (fun _ k => XS.aloadN Xj67.here hx rfl (hb hby d27_109) rfl rfl k) ?_
    obtain ⟨T68, X68, e68, st68⟩ := getF Xj67 hx hZ hown (host := "") (Or.inl (own_hw hw 36)) Via.refl ej67 fj67_1 (g := (mkF m 110 #[oR ab, oj pl, .second, oj pm, .second, .unset, .unset, .unset, .unset, .unset, .unset, .unset, .unset, .unset, .unset] [(.ref ab)])) rfl rfl (hb hby d27_110)
    refine own_go (st' := T68.setTop (mkF m 113 #[oR ab, oj pl, .second, oj pm, .second, .unset, .unset, .unset, .unset, .unset, .unset, .unset, .unset, .unset, .unset] [(.ref ms)])) (st68) ?_
    obtain ⟨cq69, kq69, q69a, q69b, q69c⟩ := isOf hZ e68 fj67_3
    obtain ⟨_, _, ⟨T69, LC69, kC69, nC69⟩, -, X69, ⟨Lc69, hQ69, lq69, yq69, zq69⟩, st69⟩ := X68.interfaceBack hx (xi := oM39) (y := oM5) hown (mvT hZ (own_hw hw 317)) (mvT hZ (own_hw hw 318)) (mvT hZ (own_hw hw 319)) (mvT hZ (own_hw hw 320)) (mvT hZ (own_hw hw 210)) (mvT hZ (own_hw hw 321)) (mvT hZ (own_hw hw 322)) (mvT hZ (own_hw hw 65)) (by decide) (backOf (W := 0) (rm29 l Z a0 hw [] ms (1 : Int32) hj67 n0 (by omega) fj67_6) hZ (own_hw hw 211) (own_hw hw 17) (by decide) (by decide)) q69a q69b q69c (g := (mkF m 113 #[oR ab, oj pl, .second, oj pm, .second, .unset, .unset, .unset, .unset, .unset, .unset, .unset, .unset, .unset, .unset] [(.ref ms)])) rfl (by rw [hml]; rfl) (Steps.refl _) (argsL := []) (rest := []) (lenOf pd_18 rfl) rfl (by show 2 * 0 + _ ≤ _; exact Nat.le_of_eq rfl) (hb hby d27_113) (fun _ _ => ⟨rfl, e68, (by decide : 4 + 0 ≤ _), (by decide : 10 + 0 ≤ _)⟩)
    dsimp only [Pt.U, Pt.locs, Pt.cells, Pt.slots] at X69 lq69 yq69 zq69 st69 hQ69
    subst lq69 yq69 zq69
    obtain ⟨rfl, Nq69, eq69⟩ := hQ69
    have N69 := Fr.app Nj67 Nq69
    refine own_go (st' := T69.setTop (mkF m 118 #[oR ab, oj pl, .second, oj pm, .second, .unset, .unset, .unset, .unset, .unset, .unset, .unset, .unset, .unset, .unset] [(.int (1 : Int32))])) (fun _ k => st69.trans k) ?_
    obtain ⟨T70, h70, k70, X70, e70, E70, A70, st70⟩ := newP X69 hx hZ (own_hw hw 323) eq69 (g := (mkF m 118 #[oR ab, oj pl, .second, oj pm, .second, .unset, .unset, .unset, .unset, .unset, .unset, .unset, .unset, .unset, .unset] [(.int (1 : Int32))])) rfl (hb hby d27_118) rfl (by decide) (cap := 1) (by decide) (by decide) (by decide) (by decide)
    obtain ⟨b70, g70⟩ : ∃ z, z = hj67.size := ⟨_, rfl⟩
    rw [← g70] at A70 st70
    have sz70 : hj67.size ≤ h70.size := E70.1
    have lt70 : @LT.lt Nat _ b70 h70.size := A70.lt
    have v70 : Arv Z h70 b70 k70 .long (1 : Int32) [(.long (0 : Int64))] (.long (0 : Int64)) := (Arv.new A70 (by decide)).pad (pad_rep [] (.long (0 : Int64)) 1)
    refine own_go (st' := T70.setTop (mkF m 120 #[oR ab, oj pl, .second, oj pm, .second, .unset, .unset, .unset, .unset, .unset, .unset, .unset, .unset, .unset, .unset] [(.ref b70)])) (st70) ?_
    refine own_go (st' := T70.setTop (mkF m 122 #[oR ab, oj pl, .second, oj pm, .second, oR b70, .unset, .unset, .unset, .unset, .unset, .unset, .unset, .unset, .unset] [])) (fun _ k => XS.astore X70.here hx rfl (hb hby d27_120) rfl rfl (l' := #[oR ab, oj pl, .second, oj pm, .second, oR b70, .unset, .unset, .unset, .unset, .unset, .unset, .unset, .unset, .unset]) rfl k) ?_
    refine own_go (st' := T70.setTop (mkF m 123 #[oR ab, oj pl, .second, oj pm, .second, oR b70, .unset, .unset, .unset, .unset, .unset, .unset, .unset, .unset, .unset] [(.ref ab)])) (fun _ k => XS.aloadN X70.here hx rfl (hb hby d27_122) rfl rfl k) ?_
    have c71 : Fld Z h70 ab oS5 "stock" oS13 (.ref ms) := (fj67_1.ext E70)
    obtain ⟨T72, X72, e72, st72⟩ := getF X70 hx hZ hown (host := "") (Or.inl (own_hw hw 36)) Via.refl e70 c71 (g := (mkF m 123 #[oR ab, oj pl, .second, oj pm, .second, oR b70, .unset, .unset, .unset, .unset, .unset, .unset, .unset, .unset, .unset] [(.ref ab)])) rfl rfl (hb hby d27_123)
    refine own_go (st' := T72.setTop (mkF m 126 #[oR ab, oj pl, .second, oj pm, .second, oR b70, .unset, .unset, .unset, .unset, .unset, .unset, .unset, .unset, .unset] [(.ref ms)])) (st72) ?_
    have c74 : Fld Z h70 ms oS0 "size" "I" (.int (1 : Int32)) := (fj67_6.ext E70)
    have c75 : Exa Z h70 ms oS0 := (fj67_3.ext E70)
    obtain ⟨cq73, kq73, q73a, q73b, q73c⟩ := isOf hZ e72 c75
    obtain ⟨_, _, ⟨T73, LC73, kC73, nC73⟩, -, X73, ⟨Lc73, hQ73, lq73, yq73, zq73⟩, st73⟩ := X72.interfaceBack hx (xi := oM39) (y := oM5) hown (mvT hZ (own_hw hw 317)) (mvT hZ (own_hw hw 318)) (mvT hZ (own_hw hw 319)) (mvT hZ (own_hw hw 320)) (mvT hZ (own_hw hw 210)) (mvT hZ (own_hw hw 321)) (mvT hZ (own_hw hw 322)) (mvT hZ (own_hw hw 65)) (by decide) (backOf (W := 0) (rm29 l Z a0 hw [] ms (1 : Int32) h70 n0 (by omega) c74) hZ (own_hw hw 211) (own_hw hw 17) (by decide) (by decide)) q73a q73b q73c (g := (mkF m 126 #[oR ab, oj pl, .second, oj pm, .second, oR b70, .unset, .unset, .unset, .unset, .unset, .unset, .unset, .unset, .unset] [(.ref ms)])) rfl (by rw [hml]; rfl) (Steps.refl _) (argsL := []) (rest := []) (lenOf pd_18 rfl) rfl (by show 2 * 0 + _ ≤ _; exact Nat.le_of_eq rfl) (hb hby d27_126) (fun _ _ => ⟨rfl, e72, (by decide : 5 + 0 ≤ _), (by decide : 11 + 0 ≤ _)⟩)
    dsimp only [Pt.U, Pt.locs, Pt.cells, Pt.slots] at X73 lq73 yq73 zq73 st73 hQ73
    subst lq73 yq73 zq73
    obtain ⟨rfl, Nq73, eq73⟩ := hQ73
    have N73 := Fr.app N69 Nq73
    refine own_go (st' := T73.setTop (mkF m 131 #[oR ab, oj pl, .second, oj pm, .second, oR b70, .unset, .unset, .unset, .unset, .unset, .unset, .unset, .unset, .unset] [(.int (1 : Int32))])) (fun _ k => st73.trans k) ?_
    obtain ⟨T76, h76, k76, X76, e76, E76, A76, st76⟩ := newP X73 hx hZ (own_hw hw 323) eq73 (g := (mkF m 131 #[oR ab, oj pl, .second, oj pm, .second, oR b70, .unset, .unset, .unset, .unset, .unset, .unset, .unset, .unset, .unset] [(.int (1 : Int32))])) rfl (hb hby d27_131) rfl (by decide) (cap := 1) (by decide) (by decide) (by decide) (by decide)
    obtain ⟨b76, g76⟩ : ∃ z, z = h70.size := ⟨_, rfl⟩
    rw [← g76] at A76 st76
    have sz76 : h70.size ≤ h76.size := E76.1
    have lt76 : @LT.lt Nat _ b76 h76.size := A76.lt
    have v76 : Arv Z h76 b76 k76 .long (1 : Int32) [(.long (0 : Int64))] (.long (0 : Int64)) := (Arv.new A76 (by decide)).pad (pad_rep [] (.long (0 : Int64)) 1)
    refine own_go (st' := T76.setTop (mkF m 133 #[oR ab, oj pl, .second, oj pm, .second, oR b70, .unset, .unset, .unset, .unset, .unset, .unset, .unset, .unset, .unset] [(.ref b76)])) (st76) ?_
    refine own_go (st' := T76.setTop (mkF m 135 #[oR ab, oj pl, .second, oj pm, .second, oR b70, oR b76, .unset, .unset, .unset, .unset, .unset, .unset, .unset, .unset] [])) (fun _ k => XS.astore X76.here hx rfl (hb hby d27_133) rfl rfl (l' := #[oR ab, oj pl, .second, oj pm, .second, oR b70, oR b76, .unset, .unset, .unset, .unset, .unset, .unset, .unset, .unset]) rfl k) ?_
    refine own_go (st' := T76.setTop (mkF m 136 #[oR ab, oj pl, .second, oj pm, .second, oR b70, oR b76, .unset, .unset, .unset, .unset, .unset, .unset, .unset, .unset] [(.int (0 : Int32))])) (fun _ k => XS.iconst X76.here hx rfl (hb hby d27_135) k) ?_
    refine own_go (st' := T76.setTop (mkF m 138 #[oR ab, oj pl, .second, oj pm, .second, oR b70, oR b76, oi 0, .unset, .unset, .unset, .unset, .unset, .unset, .unset] [])) (fun _ k => XS.istore X76.here hx rfl (hb hby d27_136) rfl (l' := #[oR ab, oj pl, .second, oj pm, .second, oR b70, oR b76, oi 0, .unset, .unset, .unset, .unset, .unset, .unset, .unset]) rfl k) ?_
    refine own_go (st' := T76.setTop (mkF m 139 #[oR ab, oj pl, .second, oj pm, .second, oR b70, oR b76, oi 0, .unset, .unset, .unset, .unset, .unset, .unset, .unset] [(.ref ab)])) (fun _ k => XS.aloadN X76.here hx rfl (hb hby d27_138) rfl rfl k) ?_
    have c77 : Fld Z h76 ab oS5 "stock" oS13 (.ref ms) := (c71.ext E76)
    obtain ⟨T78, X78, e78, st78⟩ := getF X76 hx hZ hown (host := "") (Or.inl (own_hw hw 36)) Via.refl e76 c77 (g := (mkF m 139 #[oR ab, oj pl, .second, oj pm, .second, oR b70, oR b76, oi 0, .unset, .unset, .unset, .unset, .unset, .unset, .unset] [(.ref ab)])) rfl rfl (hb hby d27_139)
    refine own_go (st' := T78.setTop (mkF m 142 #[oR ab, oj pl, .second, oj pm, .second, oR b70, oR b76, oi 0, .unset, .unset, .unset, .unset, .unset, .unset, .unset] [(.ref ms)])) (st78) ?_
    have c80 : Exa Z h76 ms oS0 := (c75.ext E76)
    have c81 : Fld Z h76 ms oS0 "comparator" oS6 (.ref cmp) := ((fj67_4.ext E70).ext E76)
    have c82 : Fld Z h76 ms oS0 "root" oS2 (.ref r1) := ((fj67_5.ext E70).ext E76)
    have c83 : Fld Z h76 ms oS0 "size" "I" (.int (1 : Int32)) := (c74.ext E76)
    have c84 : Fld Z h76 ms oS0 "modCount" "I" (.int (1 : Int32)) := ((fj67_7.ext E70).ext E76)
    have c85 : Fld Z h76 ms oS0 oS10 oS11 (.ref ks1) := ((fj67_8.ext E70).ext E76)
    have c86 : Fld Z h76 ms oS0 "entrySet" oS12 .null := ((fj67_9.ext E70).ext E76)
    obtain ⟨cq79, kq79, q79a, q79b, q79c⟩ := isOf hZ e78 c80
    obtain ⟨_, _, ⟨T79, LC79, kC79, nC79⟩, -, X79, ⟨Lc79, hQ79, lq79, yq79, zq79⟩, st79⟩ := X78.interfaceBack hx (xi := oM67) (y := oM31) hown (mvT hZ (own_hw hw 324)) (mvT hZ (own_hw hw 325)) (mvT hZ (own_hw hw 326)) (mvT hZ (own_hw hw 327)) (mvT hZ (own_hw hw 328)) (mvT hZ (own_hw hw 329)) (mvT hZ (own_hw hw 330)) (mvT hZ (own_hw hw 65)) (by decide) (backOf (W := 0) (rm43 l Z a0 hw [] ms cmp r1 ks1 h76 n0 (by omega) c80 c81 c82 c83 c84 c85 c86 (by omega)) hZ (own_hw hw 331) (own_hw hw 17) (by decide) (by decide)) q79a q79b q79c (g := (mkF m 142 #[oR ab, oj pl, .second, oj pm, .second, oR b70, oR b76, oi 0, .unset, .unset, .unset, .unset, .unset, .unset, .unset] [(.ref ms)])) rfl (by rw [hml]; rfl) (Steps.refl _) (argsL := []) (rest := []) (lenOf pd_30 rfl) rfl (by show 2 * 0 + _ ≤ _; exact Nat.le_of_eq rfl) (hb hby d27_142) (fun _ _ => ⟨rfl, e78, (by decide : 6 + 1 ≤ _), (by decide : 12 + 1 ≤ _)⟩)
    dsimp only [Pt.U, Pt.locs, Pt.cells, Pt.slots] at X79 lq79 yq79 zq79 st79 hQ79
    subst lq79 yq79 zq79
    obtain ⟨h79, e79⟩ : ∃ z, T79.heap = z := ⟨_, rfl⟩
    rw [e79] at hQ79
    obtain ⟨es_79, rfl, Nq79, K79, g79_0, g79_1, g79_2, g79_3, g79_4, g79_5, g79_6, g79_7, g79_8, g79_9⟩ := hQ79
    have sz79 : h76.size ≤ h79.size := K79.1
    have N79 := Fr.app N73 Nq79
    have lt79_1 : @LT.lt Nat _ ms h79.size := g79_0.lt
    have lt79_2 : @LT.lt Nat _ es_79 h79.size := g79_7.lt
    refine own_go (st' := T79.setTop (mkF m 147 #[oR ab, oj pl, .second, oj pm, .second, oR b70, oR b76, oi 0, .unset, .unset, .unset, .unset, .unset, .unset, .unset] [(.ref es_79)])) (fun _ k => st79.trans k) ?_
    have c88 : Fld Z h79 r1 oS1 "left" oS2 .null := (((fj67_13.ext E70).ext E76).keep K79 (ninS own_nq nin0))
    obtain ⟨cq87, kq87, q87a, q87b, q87c⟩ := isOf hZ e79 g79_7
    obtain ⟨_, _, ⟨T87, LC87, kC87, nC87⟩, -, X87, ⟨Lc87, hQ87, lq87, yq87, zq87⟩, st87⟩ := X79.interfaceBack hx (xi := oM40) (y := oM32) hown (mvT hZ (own_hw hw 249)) (mvT hZ (own_hw hw 250)) (mvT hZ (own_hw hw 251)) (mvT hZ (own_hw hw 346)) (mvT hZ (own_hw hw 347)) (mvT hZ (own_hw hw 348)) (mvT hZ (own_hw hw 349)) (mvT hZ (own_hw hw 350)) (by decide) (backOf (W := 0) (rm45 l Z a0 hw [] es_79 ms r1 h79 n0 (by omega) g79_7 g79_8 g79_0 g79_4 g79_2 c88) hZ (own_hw hw 351) (own_hw hw 336) (by decide) (by decide)) q87a q87b q87c (g := (mkF m 147 #[oR ab, oj pl, .second, oj pm, .second, oR b70, oR b76, oi 0, .unset, .unset, .unset, .unset, .unset, .unset, .unset] [(.ref es_79)])) rfl (by rw [hml]; rfl) (Steps.refl _) (argsL := []) (rest := []) (lenOf pd_23 rfl) rfl (by show 2 * 0 + _ ≤ _; exact Nat.le_of_eq rfl) (hb hby d27_147) (fun _ _ => ⟨rfl, e79, (by decide : 7 + 1 ≤ _), (by decide : 13 + 4 ≤ _)⟩)
    dsimp only [Pt.U, Pt.locs, Pt.cells, Pt.slots] at X87 lq87 yq87 zq87 st87 hQ87
    subst lq87 yq87 zq87
    obtain ⟨h87, e87⟩ : ∃ z, T87.heap = z := ⟨_, rfl⟩
    rw [e87] at hQ87
    obtain ⟨it_87, rfl, Nq87, K87, g87_0, g87_1, g87_2, g87_3, g87_4, g87_5⟩ := hQ87
    have sz87 : h79.size ≤ h87.size := K87.1
    have N87 := Fr.app N79 Nq87
    have lt87_1 : @LT.lt Nat _ it_87 h87.size := g87_0.lt
    refine own_go (st' := T87.setTop (mkF m 152 #[oR ab, oj pl, .second, oj pm, .second, oR b70, oR b76, oi 0, .unset, .unset, .unset, .unset, .unset, .unset, .unset] [(.ref it_87)])) (fun _ k => st87.trans k) ?_
    refine own_go (st' := T87.setTop (mkF m 154 #[oR ab, oj pl, .second, oj pm, .second, oR b70, oR b76, oi 0, oR it_87, .unset, .unset, .unset, .unset, .unset, .unset] [])) (fun _ k => XS.astore X87.here hx rfl (hb hby d27_152) rfl rfl (l' := #[oR ab, oj pl, .second, oj pm, .second, oR b70, oR b76, oi 0, oR it_87, .unset, .unset, .unset, .unset, .unset, .unset]) rfl k) ?_
    refine own_go (st' := T87.setTop (mkF m 156 #[oR ab, oj pl, .second, oj pm, .second, oR b70, oR b76, oi 0, oR it_87, .unset, .unset, .unset, .unset, .unset, .unset] [(.ref it_87)])) (fun _ k => XS.aload X87.here hx rfl (hb hby d27_154) rfl rfl k) ?_
    obtain ⟨cq89, kq89, q89a, q89b, q89c⟩ := isOf hZ e87 g87_0
    obtain ⟨_, _, ⟨T89, LC89, kC89, nC89⟩, -, X89, ⟨Lc89, hQ89, lq89, yq89, zq89⟩, st89⟩ := X87.interfaceBack hx (xi := oM41) (y := oM3) hown (mvT hZ (own_hw hw 366)) (mvT hZ (own_hw hw 367)) (mvT hZ (own_hw hw 368)) (mvT hZ (own_hw hw 369)) (mvT hZ (own_hw hw 370)) (mvT hZ (own_hw hw 371)) (mvT hZ (own_hw hw 372)) (mvT hZ (own_hw hw 373)) (by decide) (backOf (W := 0) (rhn_1 l Z a0 hw [] it_87 r1 h87 n0 (by omega) g87_4) hZ (own_hw hw 374) (own_hw hw 283) (by decide) (by decide)) q89a q89b q89c (g := (mkF m 156 #[oR ab, oj pl, .second, oj pm, .second, oR b70, oR b76, oi 0, oR it_87, .unset, .unset, .unset, .unset, .unset, .unset] [(.ref it_87)])) rfl (by rw [hml]; rfl) (Steps.refl _) (argsL := []) (rest := []) (lenOf pd_31 rfl) rfl (by show 2 * 0 + _ ≤ _; exact Nat.le_of_eq rfl) (hb hby d27_156) (fun _ _ => ⟨rfl, e87, (by decide : 8 + 0 ≤ _), (by decide : 17 + 0 ≤ _)⟩)
    dsimp only [Pt.U, Pt.locs, Pt.cells, Pt.slots] at X89 lq89 yq89 zq89 st89 hQ89
    subst lq89 yq89 zq89
    obtain ⟨rfl, Nq89, eq89⟩ := hQ89
    have N89 := Fr.app N87 Nq89
    refine own_go (st' := T89.setTop (mkF m 161 #[oR ab, oj pl, .second, oj pm, .second, oR b70, oR b76, oi 0, oR it_87, .unset, .unset, .unset, .unset, .unset, .unset] [(.int (1 : Int32))])) (fun _ k => st89.trans k) ?_
    have hc90 : ¬ ((1 : Int32) = (0 : Int32)) := by decide
    refine own_go (st' := T89.setTop (mkF m 164 #[oR ab, oj pl, .second, oj pm, .second, oR b70, oR b76, oi 0, oR it_87, .unset, .unset, .unset, .unset, .unset, .unset] [])) (fun _ k => XS.ifNo X89.here hx rfl (hb hby d27_161) rfl ((if0 _ _).trans (feq hc90).1) k) ?_
    refine own_go (st' := T89.setTop (mkF m 166 #[oR ab, oj pl, .second, oj pm, .second, oR b70, oR b76, oi 0, oR it_87, .unset, .unset, .unset, .unset, .unset, .unset] [(.ref it_87)])) (fun _ k => XS.aload X89.here hx rfl (hb hby d27_164) rfl rfl k) ?_
    have c92 : Fld Z h87 ms oS0 "modCount" "I" (.int (1 : Int32)) := (g79_4.keep K87 nin0)
    have c93 : Fld Z h87 r1 oS1 "right" oS2 .null := ((((fj67_14.ext E70).ext E76).keep K79 (ninS own_nq nin0)).keep K87 nin0)
    have c94 : Fld Z h87 r1 oS1 "parent" oS2 .null := ((((fj67_15.ext E70).ext E76).keep K79 (ninS own_nq nin0)).keep K87 nin0)
    obtain ⟨cq91, kq91, q91a, q91b, q91c⟩ := isOf hZ eq89 g87_0
    obtain ⟨_, _, ⟨T91, LC91, kC91, nC91⟩, -, X91, ⟨Lc91, hQ91, lq91, yq91, zq91⟩, st91⟩ := X89.interfaceBack hx (xi := oM42) (y := oM30) hown (mvT hZ (own_hw hw 295)) (mvT hZ (own_hw hw 296)) (mvT hZ (own_hw hw 297)) (mvT hZ (own_hw hw 375)) (mvT hZ (own_hw hw 376)) (mvT hZ (own_hw hw 377)) (mvT hZ (own_hw hw 378)) (mvT hZ (own_hw hw 373)) (by decide) (backOf (W := 0) (rm48 l Z a0 hw [] it_87 ms r1 h87 n0 (by omega) g87_0 g87_1 g87_2 g87_3 g87_4 c92 c93 c94 (by omega) own_nr own_nr) hZ (own_hw hw 379) (own_hw hw 354) (by decide) (by decide)) q91a q91b q91c (g := (mkF m 166 #[oR ab, oj pl, .second, oj pm, .second, oR b70, oR b76, oi 0, oR it_87, .unset, .unset, .unset, .unset, .unset, .unset] [(.ref it_87)])) rfl (by rw [hml]; rfl) (Steps.refl _) (argsL := []) (rest := []) (lenOf pd_32 rfl) rfl (by show 2 * 0 + _ ≤ _; exact Nat.le_of_eq rfl) (hb hby d27_166) (fun _ _ => ⟨rfl, eq89, (by decide : 8 + 0 ≤ _), (by decide : 17 + 0 ≤ _)⟩)
    dsimp only [Pt.U, Pt.locs, Pt.cells, Pt.slots] at X91 lq91 yq91 zq91 st91 hQ91
    subst lq91 yq91 zq91
    obtain ⟨h91, e91⟩ : ∃ z, T91.heap = z := ⟨_, rfl⟩
    rw [e91] at hQ91
    obtain ⟨rfl, Nq91, K91, g91_0, g91_1, g91_2, g91_3, g91_4⟩ := hQ91
    have sz91 : h87.size ≤ h91.size := K91.1
    have N91 := Fr.app N89 Nq91
    have lt91_1 : @LT.lt Nat _ it_87 h91.size := g91_0.lt
    refine own_go (st' := T91.setTop (mkF m 171 #[oR ab, oj pl, .second, oj pm, .second, oR b70, oR b76, oi 0, oR it_87, .unset, .unset, .unset, .unset, .unset, .unset] [(.ref r1)])) (fun _ k => st91.trans k) ?_
    have c96 : Exa Z h91 r1 oS1 := (((((fj67_10.ext E70).ext E76).keep K79).keep K87).keep K91)
    obtain ⟨T95, X95, e95, st95⟩ := castY X91 hx hZ hown (own_hw hw 388) e91 (Ins.of_exa c96 (own_hw hw 389)) (g := (mkF m 171 #[oR ab, oj pl, .second, oj pm, .second, oR b70, oR b76, oi 0, oR it_87, .unset, .unset, .unset, .unset, .unset, .unset] [(.ref r1)])) rfl rfl (hb hby d27_171)
    refine own_go (st' := T95.setTop (mkF m 174 #[oR ab, oj pl, .second, oj pm, .second, oR b70, oR b76, oi 0, oR it_87, .unset, .unset, .unset, .unset, .unset, .unset] [(.ref r1)])) (st95) ?_
    refine own_go (st' := T95.setTop (mkF m 176 #[oR ab, oj pl, .second, oj pm, .second, oR b70, oR b76, oi 0, oR it_87, oR r1, .unset, .unset, .unset, .unset, .unset] [])) (fun _ k => XS.astore X95.here hx rfl (hb hby d27_174) rfl rfl (l' := #[oR ab, oj pl, .second, oj pm, .second, oR b70, oR b76, oi 0, oR it_87, oR r1, .unset, .unset, .unset, .unset, .unset]) rfl k) ?_
    refine own_go (st' := T95.setTop (mkF m 178 #[oR ab, oj pl, .second, oj pm, .second, oR b70, oR b76, oi 0, oR it_87, oR r1, .unset, .unset, .unset, .unset, .unset] [(.ref b70)])) (fun _ k => XS.aload X95.here hx rfl (hb hby d27_176) rfl rfl k) ?_
    refine own_go (st' := T95.setTop (mkF m 180 #[oR ab, oj pl, .second, oj pm, .second, oR b70, oR b76, oi 0, oR it_87, oR r1, .unset, .unset, .unset, .unset, .unset] [(.int (0 : Int32)), (.ref b70)])) (fun _ k => XS.iload X95.here hx rfl (hb hby d27_178) rfl k) ?_
    refine own_go (st' := T95.setTop (mkF m 182 #[oR ab, oj pl, .second, oj pm, .second, oR b70, oR b76, oi 0, oR it_87, oR r1, .unset, .unset, .unset, .unset, .unset] [(.ref r1), (.int (0 : Int32)), (.ref b70)])) (fun _ k => XS.aload X95.here hx rfl (hb hby d27_180) rfl rfl k) ?_
    have c98 : Fld Z h91 r1 oS1 "key" oS8 (.ref ak) := (((((fj67_11.ext E70).ext E76).keep K79 (ninS own_nq nin0)).keep K87 nin0).keep K91 (ninS own_nq nin0))
    obtain ⟨cq97, kq97, q97a, q97b, q97c⟩ := isOf hZ e95 c96
    obtain ⟨_, _, ⟨T97, LC97, kC97, nC97⟩, -, X97, ⟨Lc97, hQ97, lq97, yq97, zq97⟩, st97⟩ := X95.interfaceBack hx (xi := oM68) (y := oM33) hown (mvT hZ (own_hw hw 390)) (mvT hZ (own_hw hw 391)) (mvT hZ (own_hw hw 392)) (mvT hZ (own_hw hw 393)) (mvT hZ (own_hw hw 394)) (mvT hZ (own_hw hw 395)) (mvT hZ (own_hw hw 396)) (mvT hZ (own_hw hw 389)) (by decide) (backOf (W := 2) (rm50 l Z a0 hw [] r1 ak h91 n0 (by omega) c98) hZ (own_hw hw 397) (own_hw hw 174) (by decide) (by decide)) q97a q97b q97c (g := (mkF m 182 #[oR ab, oj pl, .second, oj pm, .second, oR b70, oR b76, oi 0, oR it_87, oR r1, .unset, .unset, .unset, .unset, .unset] [(.ref r1), (.int (0 : Int32)), (.ref b70)])) rfl (by rw [hml]; rfl) (Steps.refl _) (argsL := []) (rest := [(.int (0 : Int32)), (.ref b70)]) (lenOf pd_32 rfl) rfl (by show 2 * 0 + _ ≤ _; exact Nat.le_of_eq rfl) (hb hby d27_182) (fun _ _ => ⟨rfl, e95, (by decide : 8 + 0 ≤ _), (by decide : 17 + 0 ≤ _)⟩)
    dsimp only [Pt.U, Pt.locs, Pt.cells, Pt.slots] at X97 lq97 yq97 zq97 st97 hQ97
    subst lq97 yq97 zq97
    obtain ⟨rfl, Nq97, eq97⟩ := hQ97
    have N97 := Fr.app N91 Nq97
    refine own_go (st' := T97.setTop (mkF m 187 #[oR ab, oj pl, .second, oj pm, .second, oR b70, oR b76, oi 0, oR it_87, oR r1, .unset, .unset, .unset, .unset, .unset] [(.ref ak), (.int (0 : Int32)), (.ref b70)])) (fun _ k => st97.trans k) ?_
    have c100 : Exa Z h91 ak oS3 := (((((fj67_16.ext E70).ext E76).keep K79).keep K87).keep K91)
    obtain ⟨T99, X99, e99, st99⟩ := castY X97 hx hZ hown (own_hw hw 95) eq97 (Ins.self c100) (g := (mkF m 187 #[oR ab, oj pl, .second, oj pm, .second, oR b70, oR b76, oi 0, oR it_87, oR r1, .unset, .unset, .unset, .unset, .unset] [(.ref ak), (.int (0 : Int32)), (.ref b70)])) rfl rfl (hb hby d27_187)
    refine own_go (st' := T99.setTop (mkF m 190 #[oR ab, oj pl, .second, oj pm, .second, oR b70, oR b76, oi 0, oR it_87, oR r1, .unset, .unset, .unset, .unset, .unset] [(.ref ak), (.int (0 : Int32)), (.ref b70)])) (st99) ?_
    have c102 : Fld Z h91 ak oS3 "value" "J" (.long pl) := (((((fj67_17.ext E70).ext E76).keep K79 (ninS own_nq nin0)).keep K87 nin0).keep K91 (ninS own_nq nin0))
    obtain ⟨cq101, kq101, q101a, q101b, q101c⟩ := isOf hZ e99 c100
    obtain ⟨_, _, ⟨T101, LC101, kC101, nC101⟩, -, X101, ⟨Lc101, hQ101, lq101, yq101, zq101⟩, st101⟩ := X99.virtualBack hx (y := oM0) (z := oM0) hown (mvT hZ (own_hw hw 97)) (mvT hZ (own_hw hw 98)) (notFace_of_selects (args := #[]) (mvT hZ (own_hw hw 100))) (mvT hZ (own_hw hw 100)) (mvT hZ (own_hw hw 99)) (by decide) (backOf (W := 2) (rm13 l Z a0 hw [] ak pl h91 n0 (by omega) c100 c102) hZ (own_hw hw 101) (own_hw hw 53) (by decide) (by decide)) q101a q101c (g := (mkF m 190 #[oR ab, oj pl, .second, oj pm, .second, oR b70, oR b76, oi 0, oR it_87, oR r1, .unset, .unset, .unset, .unset, .unset] [(.ref ak), (.int (0 : Int32)), (.ref b70)])) rfl (by rw [hml]; rfl) (Steps.refl _) (argsL := []) (rest := [(.int (0 : Int32)), (.ref b70)]) (lenOf pd_16 rfl) rfl (by show 2 * 0 + _ ≤ _; exact Nat.le_of_eq rfl) (hb hby d27_190) (fun _ _ => ⟨rfl, e99, (by decide : 8 + 0 ≤ _), (by decide : 17 + 0 ≤ _)⟩)
    dsimp only [Pt.U, Pt.locs, Pt.cells, Pt.slots] at X101 lq101 yq101 zq101 st101 hQ101
    subst lq101 yq101 zq101
    obtain ⟨rfl, Nq101, eq101⟩ := hQ101
    have N101 := Fr.app N97 Nq101
    refine own_go (st' := T101.setTop (mkF m 193 #[oR ab, oj pl, .second, oj pm, .second, oR b70, oR b76, oi 0, oR it_87, oR r1, .unset, .unset, .unset, .unset, .unset] [(.long pl), (.int (0 : Int32)), (.ref b70)])) (fun _ k => st101.trans k) ?_
    have c103 : Arv Z h91 b70 k70 .long (1 : Int32) [(.long (0 : Int64))] (.long (0 : Int64)) := ((((v70.ext E76).keep K79 (ninS own_nq nin0)).keep K87 nin0).keep K91 (ninS own_nq nin0))
    obtain ⟨cl104, Ar104, qc104, S104, M104, H104, G104⟩ := id c103
    have hin104 : ¬ ((0 : Int32) < 0 ∨ cl104.slots.size ≤ ((0 : Int32)).toNatClampNeg) := (inb_of S104 ⟨by decide, by decide⟩)
    obtain ⟨T104, h104, X104, e104, W104, st104⟩ := stJ X101 hx hZ eq101 Ar104 (j := (0 : Int32)) hin104 (g := (mkF m 193 #[oR ab, oj pl, .second, oj pm, .second, oR b70, oR b76, oi 0, oR it_87, oR r1, .unset, .unset, .unset, .unset, .unset] [(.long pl), (.int (0 : Int32)), (.ref b70)])) rfl rfl (hb hby d27_193)
    have sz104 : h104.size = h91.size := W104.size
    have N104 := Fr.snoc X104 N101 (by omega)
    have v104 : Arv Z h104 b70 k70 .long (1 : Int32) [(.long pl)] (.long (0 : Int64)) := Arv.set Ar104 qc104 S104 M104 H104 G104 rfl W104 0 rfl (Nat.le_of_ble_eq_true rfl)
    refine own_go (st' := T104.setTop (mkF m 194 #[oR ab, oj pl, .second, oj pm, .second, oR b70, oR b76, oi 0, oR it_87, oR r1, .unset, .unset, .unset, .unset, .unset] [])) (st104) ?_
    refine own_go (st' := T104.setTop (mkF m 196 #[oR ab, oj pl, .second, oj pm, .second, oR b70, oR b76, oi 0, oR it_87, oR r1, .unset, .unset, .unset, .unset, .unset] [(.ref b76)])) (fun _ k => XS.aload X104.here hx rfl (hb hby d27_194) rfl rfl k) ?_
    refine own_go (st' := T104.setTop (mkF m 198 #[oR ab, oj pl, .second, oj pm, .second, oR b70, oR b76, oi 0, oR it_87, oR r1, .unset, .unset, .unset, .unset, .unset] [(.int (0 : Int32)), (.ref b76)])) (fun _ k => XS.iload X104.here hx rfl (hb hby d27_196) rfl k) ?_
    refine own_go (st' := T104.setTop (mkF m 200 #[oR ab, oj pl, .second, oj pm, .second, oR b70, oR b76, oi 0, oR it_87, oR r1, .unset, .unset, .unset, .unset, .unset] [(.ref r1), (.int (0 : Int32)), (.ref b76)])) (fun _ k => XS.aload X104.here hx rfl (hb hby d27_198) rfl rfl k) ?_
    have c106 : Fld Z h104 r1 oS1 "value" oS8 (.ref av) := ((((((fj67_12.ext E70).ext E76).keep K79 (ninS own_nq nin0)).keep K87 nin0).keep K91 (ninS own_nq nin0)).other W104 (Or.inl own_nq))
    have c107 : Exa Z h104 r1 oS1 := (c96.wr W104)
    obtain ⟨cq105, kq105, q105a, q105b, q105c⟩ := isOf hZ e104 c107
    obtain ⟨_, _, ⟨T105, LC105, kC105, nC105⟩, -, X105, ⟨Lc105, hQ105, lq105, yq105, zq105⟩, st105⟩ := X104.interfaceBack hx (xi := oM69) (y := oM34) hown (mvT hZ (own_hw hw 398)) (mvT hZ (own_hw hw 399)) (mvT hZ (own_hw hw 400)) (mvT hZ (own_hw hw 401)) (mvT hZ (own_hw hw 402)) (mvT hZ (own_hw hw 403)) (mvT hZ (own_hw hw 404)) (mvT hZ (own_hw hw 389)) (by decide) (backOf (W := 2) (rm51 l Z a0 hw [] r1 av h104 n0 (by omega) c106) hZ (own_hw hw 405) (own_hw hw 174) (by decide) (by decide)) q105a q105b q105c (g := (mkF m 200 #[oR ab, oj pl, .second, oj pm, .second, oR b70, oR b76, oi 0, oR it_87, oR r1, .unset, .unset, .unset, .unset, .unset] [(.ref r1), (.int (0 : Int32)), (.ref b76)])) rfl (by rw [hml]; rfl) (Steps.refl _) (argsL := []) (rest := [(.int (0 : Int32)), (.ref b76)]) (lenOf pd_32 rfl) rfl (by show 2 * 0 + _ ≤ _; exact Nat.le_of_eq rfl) (hb hby d27_200) (fun _ _ => ⟨rfl, e104, (by decide : 8 + 0 ≤ _), (by decide : 17 + 0 ≤ _)⟩)
    dsimp only [Pt.U, Pt.locs, Pt.cells, Pt.slots] at X105 lq105 yq105 zq105 st105 hQ105
    subst lq105 yq105 zq105
    obtain ⟨rfl, Nq105, eq105⟩ := hQ105
    have N105 := Fr.app N104 Nq105
    refine own_go (st' := T105.setTop (mkF m 205 #[oR ab, oj pl, .second, oj pm, .second, oR b70, oR b76, oi 0, oR it_87, oR r1, .unset, .unset, .unset, .unset, .unset] [(.ref av), (.int (0 : Int32)), (.ref b76)])) (fun _ k => st105.trans k) ?_
    have c109 : Exa Z h104 av oS3 := ((((((fj67_18.ext E70).ext E76).keep K79).keep K87).keep K91).wr W104)
    obtain ⟨T108, X108, e108, st108⟩ := castY X105 hx hZ hown (own_hw hw 95) eq105 (Ins.self c109) (g := (mkF m 205 #[oR ab, oj pl, .second, oj pm, .second, oR b70, oR b76, oi 0, oR it_87, oR r1, .unset, .unset, .unset, .unset, .unset] [(.ref av), (.int (0 : Int32)), (.ref b76)])) rfl rfl (hb hby d27_205)
    refine own_go (st' := T108.setTop (mkF m 208 #[oR ab, oj pl, .second, oj pm, .second, oR b70, oR b76, oi 0, oR it_87, oR r1, .unset, .unset, .unset, .unset, .unset] [(.ref av), (.int (0 : Int32)), (.ref b76)])) (st108) ?_
    have c111 : Fld Z h104 av oS3 "value" "J" (.long (9223372036854775807 : Int64)) := ((((((fj67_19.ext E70).ext E76).keep K79 (ninS own_nq nin0)).keep K87 nin0).keep K91 (ninS own_nq nin0)).other W104 (Or.inl own_nq))
    obtain ⟨cq110, kq110, q110a, q110b, q110c⟩ := isOf hZ e108 c109
    obtain ⟨_, _, ⟨T110, LC110, kC110, nC110⟩, -, X110, ⟨Lc110, hQ110, lq110, yq110, zq110⟩, st110⟩ := X108.virtualBack hx (y := oM0) (z := oM0) hown (mvT hZ (own_hw hw 97)) (mvT hZ (own_hw hw 98)) (notFace_of_selects (args := #[]) (mvT hZ (own_hw hw 100))) (mvT hZ (own_hw hw 100)) (mvT hZ (own_hw hw 99)) (by decide) (backOf (W := 2) (rm13 l Z a0 hw [] av (9223372036854775807 : Int64) h104 n0 (by omega) c109 c111) hZ (own_hw hw 101) (own_hw hw 53) (by decide) (by decide)) q110a q110c (g := (mkF m 208 #[oR ab, oj pl, .second, oj pm, .second, oR b70, oR b76, oi 0, oR it_87, oR r1, .unset, .unset, .unset, .unset, .unset] [(.ref av), (.int (0 : Int32)), (.ref b76)])) rfl (by rw [hml]; rfl) (Steps.refl _) (argsL := []) (rest := [(.int (0 : Int32)), (.ref b76)]) (lenOf pd_16 rfl) rfl (by show 2 * 0 + _ ≤ _; exact Nat.le_of_eq rfl) (hb hby d27_208) (fun _ _ => ⟨rfl, e108, (by decide : 8 + 0 ≤ _), (by decide : 17 + 0 ≤ _)⟩)
    dsimp only [Pt.U, Pt.locs, Pt.cells, Pt.slots] at X110 lq110 yq110 zq110 st110 hQ110
    subst lq110 yq110 zq110
    obtain ⟨rfl, Nq110, eq110⟩ := hQ110
    have N110 := Fr.app N105 Nq110
    refine own_go (st' := T110.setTop (mkF m 211 #[oR ab, oj pl, .second, oj pm, .second, oR b70, oR b76, oi 0, oR it_87, oR r1, .unset, .unset, .unset, .unset, .unset] [(.long (9223372036854775807 : Int64)), (.int (0 : Int32)), (.ref b76)])) (fun _ k => st110.trans k) ?_
    have c112 : Arv Z h104 b76 k76 .long (1 : Int32) [(.long (0 : Int64))] (.long (0 : Int64)) := ((((v76.keep K79 (ninS own_nq nin0)).keep K87 nin0).keep K91 (ninS own_nq nin0)).other W104 own_nq)
    obtain ⟨cl113, Ar113, qc113, S113, M113, H113, G113⟩ := id c112
    have hin113 : ¬ ((0 : Int32) < 0 ∨ cl113.slots.size ≤ ((0 : Int32)).toNatClampNeg) := (inb_of S113 ⟨by decide, by decide⟩)
    obtain ⟨T113, h113, X113, e113, W113, st113⟩ := stJ X110 hx hZ eq110 Ar113 (j := (0 : Int32)) hin113 (g := (mkF m 211 #[oR ab, oj pl, .second, oj pm, .second, oR b70, oR b76, oi 0, oR it_87, oR r1, .unset, .unset, .unset, .unset, .unset] [(.long (9223372036854775807 : Int64)), (.int (0 : Int32)), (.ref b76)])) rfl rfl (hb hby d27_211)
    have sz113 : h113.size = h104.size := W113.size
    have N113 := Fr.snoc X113 N110 (by omega)
    have v113 : Arv Z h113 b76 k76 .long (1 : Int32) [(.long (9223372036854775807 : Int64))] (.long (0 : Int64)) := Arv.set Ar113 qc113 S113 M113 H113 G113 rfl W113 0 rfl (Nat.le_of_ble_eq_true rfl)
    refine own_go (st' := T113.setTop (mkF m 212 #[oR ab, oj pl, .second, oj pm, .second, oR b70, oR b76, oi 0, oR it_87, oR r1, .unset, .unset, .unset, .unset, .unset] [])) (st113) ?_
    refine own_go (st' := T113.setTop (mkF m 215 #[oR ab, oj pl, .second, oj pm, .second, oR b70, oR b76, oi 1, oR it_87, oR r1, .unset, .unset, .unset, .unset, .unset] [])) (fun _ k => XS.iinc X113.here hx rfl (hb hby d27_212) rfl (l' := #[oR ab, oj pl, .second, oj pm, .second, oR b70, oR b76, oi 1, oR it_87, oR r1, .unset, .unset, .unset, .unset, .unset]) (by rw [show ((0 : Int32) + Int32.ofInt 1) = (1 : Int32) by decide]; rfl) k) ?_
    refine own_go (st' := T113.setTop (mkF m 154 #[oR ab, oj pl, .second, oj pm, .second, oR b70, oR b76, oi 1, oR it_87, oR r1, .unset, .unset, .unset, .unset, .unset] [])) (fun _ k => XS.goto X113.here hx rfl (pc0 := 215) (pc' := 154) rfl (hb hby d27_215) (by decide) (by decide) k) ?_
    refine own_go (st' := T113.setTop (mkF m 156 #[oR ab, oj pl, .second, oj pm, .second, oR b70, oR b76, oi 1, oR it_87, oR r1, .unset, .unset, .unset, .unset, .unset] [(.ref it_87)])) (fun _ k => XS.aload X113.here hx rfl (hb hby d27_154) rfl rfl k) ?_
    have c115 : Fld Z h113 it_87 oS4 "next" oS2 .null := ((g91_4.other W104 (Or.inl own_nq)).other W113 (Or.inl own_nq))
    have c116 : Exa Z h113 it_87 oS22 := ((g91_0.wr W104).wr W113)
    obtain ⟨cq114, kq114, q114a, q114b, q114c⟩ := isOf hZ e113 c116
    obtain ⟨_, _, ⟨T114, LC114, kC114, nC114⟩, -, X114, ⟨Lc114, hQ114, lq114, yq114, zq114⟩, st114⟩ := X113.interfaceBack hx (xi := oM41) (y := oM3) hown (mvT hZ (own_hw hw 366)) (mvT hZ (own_hw hw 367)) (mvT hZ (own_hw hw 368)) (mvT hZ (own_hw hw 369)) (mvT hZ (own_hw hw 370)) (mvT hZ (own_hw hw 371)) (mvT hZ (own_hw hw 372)) (mvT hZ (own_hw hw 373)) (by decide) (backOf (W := 0) (rhn_0 l Z a0 hw [] it_87 h113 n0 (by omega) c115) hZ (own_hw hw 374) (own_hw hw 283) (by decide) (by decide)) q114a q114b q114c (g := (mkF m 156 #[oR ab, oj pl, .second, oj pm, .second, oR b70, oR b76, oi 1, oR it_87, oR r1, .unset, .unset, .unset, .unset, .unset] [(.ref it_87)])) rfl (by rw [hml]; rfl) (Steps.refl _) (argsL := []) (rest := []) (lenOf pd_31 rfl) rfl (by show 2 * 0 + _ ≤ _; exact Nat.le_of_eq rfl) (hb hby d27_156) (fun _ _ => ⟨rfl, e113, (by decide : 8 + 0 ≤ _), (by decide : 17 + 0 ≤ _)⟩)
    dsimp only [Pt.U, Pt.locs, Pt.cells, Pt.slots] at X114 lq114 yq114 zq114 st114 hQ114
    subst lq114 yq114 zq114
    obtain ⟨rfl, Nq114, eq114⟩ := hQ114
    have N114 := Fr.app N113 Nq114
    refine own_go (st' := T114.setTop (mkF m 161 #[oR ab, oj pl, .second, oj pm, .second, oR b70, oR b76, oi 1, oR it_87, oR r1, .unset, .unset, .unset, .unset, .unset] [(.int (0 : Int32))])) (fun _ k => st114.trans k) ?_
    have hc117 : (0 : Int32) = (0 : Int32) := by decide
    refine own_go (st' := T114.setTop (mkF m 218 #[oR ab, oj pl, .second, oj pm, .second, oR b70, oR b76, oi 1, oR it_87, oR r1, .unset, .unset, .unset, .unset, .unset] [])) (fun _ k => XS.ifYes X114.here hx rfl (pc0 := 161) (pc' := 218) rfl (hb hby d27_161) rfl ((if0 _ _).trans (teq hc117).1) (by decide) (by decide) k) ?_
    have c118 : Exa Z h113 ab oS5 := (((((((fj67_0.ext E70).ext E76).keep K79).keep K87).keep K91).wr W104).wr W113)
    have c119 : Fld Z h113 ab oS5 "counts" oS13 (.ref mc) := (((((((fj67_2.ext E70).ext E76).keep K79 (ninS own_nq nin0)).keep K87 nin0).keep K91 (ninS own_nq nin0)).other W104 (Or.inl own_nq)).other W113 (Or.inl own_nq))
    have c120 : Exa Z h113 mc oS0 := (((((((fj67_20.ext E70).ext E76).keep K79).keep K87).keep K91).wr W104).wr W113)
    have c121 : Fld Z h113 mc oS0 "comparator" oS6 (.ref cmp) := (((((((fj67_21.ext E70).ext E76).keep K79 (ninS own_nq nin0)).keep K87 nin0).keep K91 (ninS own_nq nin0)).other W104 (Or.inl own_nq)).other W113 (Or.inl own_nq))
    have c122 : Fld Z h113 mc oS0 "root" oS2 (.ref r2) := (((((((fj67_22.ext E70).ext E76).keep K79 (ninS own_nq nin0)).keep K87 nin0).keep K91 (ninS own_nq nin0)).other W104 (Or.inl own_nq)).other W113 (Or.inl own_nq))
    have c123 : Fld Z h113 mc oS0 "size" "I" (.int (1 : Int32)) := (((((((fj67_23.ext E70).ext E76).keep K79 (ninS own_nq nin0)).keep K87 nin0).keep K91 (ninS own_nq nin0)).other W104 (Or.inl own_nq)).other W113 (Or.inl own_nq))
    have c124 : Fld Z h113 mc oS0 "modCount" "I" (.int (1 : Int32)) := (((((((fj67_24.ext E70).ext E76).keep K79 (ninS own_nq nin0)).keep K87 nin0).keep K91 (ninS own_nq nin0)).other W104 (Or.inl own_nq)).other W113 (Or.inl own_nq))
    have c125 : Fld Z h113 mc oS0 oS10 oS11 (.ref ks) := (((((((fj67_25.ext E70).ext E76).keep K79 (ninS own_nq nin0)).keep K87 nin0).keep K91 (ninS own_nq nin0)).other W104 (Or.inl own_nq)).other W113 (Or.inl own_nq))
    have c126 : Fld Z h113 mc oS0 "entrySet" oS12 .null := (((((((fj67_26.ext E70).ext E76).keep K79 (ninS own_nq nin0)).keep K87 nin0).keep K91 (ninS own_nq nin0)).other W104 (Or.inl own_nq)).other W113 (Or.inl own_nq))
    have c127 : Exa Z h113 r2 oS1 := (((((((fj67_27.ext E70).ext E76).keep K79).keep K87).keep K91).wr W104).wr W113)
    have c128 : Fld Z h113 r2 oS1 "key" oS8 (.ref bk) := (((((((fj67_28.ext E70).ext E76).keep K79 (ninS own_nq nin0)).keep K87 nin0).keep K91 (ninS own_nq nin0)).other W104 (Or.inl own_nq)).other W113 (Or.inl own_nq))
    have c129 : Fld Z h113 r2 oS1 "value" oS8 (.ref bv) := (((((((fj67_29.ext E70).ext E76).keep K79 (ninS own_nq nin0)).keep K87 nin0).keep K91 (ninS own_nq nin0)).other W104 (Or.inl own_nq)).other W113 (Or.inl own_nq))
    have c130 : Fld Z h113 r2 oS1 "left" oS2 .null := (((((((fj67_30.ext E70).ext E76).keep K79 (ninS own_nq nin0)).keep K87 nin0).keep K91 (ninS own_nq nin0)).other W104 (Or.inl own_nq)).other W113 (Or.inl own_nq))
    have c131 : Fld Z h113 r2 oS1 "right" oS2 .null := (((((((fj67_31.ext E70).ext E76).keep K79 (ninS own_nq nin0)).keep K87 nin0).keep K91 (ninS own_nq nin0)).other W104 (Or.inl own_nq)).other W113 (Or.inl own_nq))
    have c132 : Fld Z h113 r2 oS1 "parent" oS2 .null := (((((((fj67_32.ext E70).ext E76).keep K79 (ninS own_nq nin0)).keep K87 nin0).keep K91 (ninS own_nq nin0)).other W104 (Or.inl own_nq)).other W113 (Or.inl own_nq))
    have c133 : Exa Z h113 bk oS3 := (((((((fj67_33.ext E70).ext E76).keep K79).keep K87).keep K91).wr W104).wr W113)
    have c134 : Fld Z h113 bk oS3 "value" "J" (.long pm) := (((((((fj67_34.ext E70).ext E76).keep K79 (ninS own_nq nin0)).keep K87 nin0).keep K91 (ninS own_nq nin0)).other W104 (Or.inl own_nq)).other W113 (Or.inl own_nq))
    have c135 : Exa Z h113 bv oS3 := (((((((fj67_35.ext E70).ext E76).keep K79).keep K87).keep K91).wr W104).wr W113)
    have c136 : Fld Z h113 bv oS3 "value" "J" (.long pc) := (((((((fj67_36.ext E70).ext E76).keep K79 (ninS own_nq nin0)).keep K87 nin0).keep K91 (ninS own_nq nin0)).other W104 (Or.inl own_nq)).other W113 (Or.inl own_nq))
    have c137 : Arv Z h113 b70 k70 .long (1 : Int32) [(.long pl)] (.long (0 : Int64)) := (v104.other W113 own_nq)
    exact J218_12 _ _ _ b70 b76 it_87 ks k70 X114 eq114 N114 own_nr (by omega) (((((((Kj67.ext E70).ext E76).trans K79 (allS (P := fun x => x ∈ [ms, mc] ∨ h0.size ≤ x) (Or.inl (List.mem_of_getElem? (i := 0) rfl)) all0)).trans K87 all0).trans K91 (allS (P := fun x => x ∈ [ms, mc] ∨ h0.size ≤ x) (Or.inr (by omega)) all0)).wr W104 (Or.inr (by omega))).wr W113 (Or.inr (by omega))) c118 c119 c120 c121 c122 c123 c124 c125 c126 c127 c128 c129 c130 c131 c132 c133 c134 c135 c136 c137
  refine own_go (st' := s₁.setTop (mkF m 1 #[oR ab, .unset, .unset, .unset, .unset, .unset, .unset, .unset, .unset, .unset, .unset, .unset, .unset, .unset, .unset] [(.ref ab)])) (fun _ k => XS.aloadN X0.here hx rfl (hb hby d27_0) rfl rfl k) ?_
  obtain ⟨T138, X138, e138, st138⟩ := getF X0 hx hZ hown (host := "") (Or.inl (own_hw hw 36)) Via.refl e0 pr2 (g := (mkF m 1 #[oR ab, .unset, .unset, .unset, .unset, .unset, .unset, .unset, .unset, .unset, .unset, .unset, .unset, .unset, .unset] [(.ref ab)])) rfl rfl (hb hby d27_1)
  refine own_go (st' := T138.setTop (mkF m 4 #[oR ab, .unset, .unset, .unset, .unset, .unset, .unset, .unset, .unset, .unset, .unset, .unset, .unset, .unset, .unset] [(.ref ms)])) (st138) ?_
  obtain ⟨cq139, kq139, q139a, q139b, q139c⟩ := isOf hZ e138 pr4
  obtain ⟨_, _, ⟨T139, LC139, kC139, nC139⟩, -, X139, ⟨Lc139, hQ139, lq139, yq139, zq139⟩, st139⟩ := X138.interfaceBack hx (xi := oM70) (y := oM11) hown (mvT hZ (own_hw hw 198)) (mvT hZ (own_hw hw 199)) (mvT hZ (own_hw hw 200)) (mvT hZ (own_hw hw 201)) (mvT hZ (own_hw hw 202)) (mvT hZ (own_hw hw 203)) (mvT hZ (own_hw hw 204)) (mvT hZ (own_hw hw 65)) (by decide) (backOf (W := 0) (rm28 l Z a0 hw [] ms h0 n0 (by omega) pr4 pr7) hZ (own_hw hw 205) (own_hw hw 27) (by decide) (by decide)) q139a q139b q139c (g := (mkF m 4 #[oR ab, .unset, .unset, .unset, .unset, .unset, .unset, .unset, .unset, .unset, .unset, .unset, .unset, .unset, .unset] [(.ref ms)])) rfl (by rw [hml]; rfl) (Steps.refl _) (argsL := []) (rest := []) (lenOf pd_31 rfl) rfl (by show 2 * 0 + _ ≤ _; exact Nat.le_of_eq rfl) (hb hby d27_4) (fun _ _ => ⟨rfl, e138, (by decide : 0 + 0 ≤ _), (by decide : 0 + 0 ≤ _)⟩)
  dsimp only [Pt.U, Pt.locs, Pt.cells, Pt.slots] at X139 lq139 yq139 zq139 st139 hQ139
  subst lq139 yq139 zq139
  obtain ⟨rfl, Nq139, eq139⟩ := hQ139
  have N139 := Fr.app N0 Nq139
  refine own_go (st' := T139.setTop (mkF m 9 #[oR ab, .unset, .unset, .unset, .unset, .unset, .unset, .unset, .unset, .unset, .unset, .unset, .unset, .unset, .unset] [(.int (0 : Int32))])) (fun _ k => st139.trans k) ?_
  have hc140 : (0 : Int32) = (0 : Int32) := by decide
  refine own_go (st' := T139.setTop (mkF m 22 #[oR ab, .unset, .unset, .unset, .unset, .unset, .unset, .unset, .unset, .unset, .unset, .unset, .unset, .unset, .unset] [])) (fun _ k => XS.ifYes X139.here hx rfl (pc0 := 9) (pc' := 22) rfl (hb hby d27_9) rfl ((if0 _ _).trans (teq hc140).1) (by decide) (by decide) k) ?_
  refine own_go (st' := T139.setTop (mkF m 23 #[oR ab, .unset, .unset, .unset, .unset, .unset, .unset, .unset, .unset, .unset, .unset, .unset, .unset, .unset, .unset] [(.ref ab)])) (fun _ k => XS.aloadN X139.here hx rfl (hb hby d27_22) rfl rfl k) ?_
  obtain ⟨T141, X141, e141, st141⟩ := getF X139 hx hZ hown (host := "") (Or.inl (own_hw hw 36)) Via.refl eq139 pr2 (g := (mkF m 23 #[oR ab, .unset, .unset, .unset, .unset, .unset, .unset, .unset, .unset, .unset, .unset, .unset, .unset, .unset, .unset] [(.ref ab)])) rfl rfl (hb hby d27_23)
  refine own_go (st' := T141.setTop (mkF m 26 #[oR ab, .unset, .unset, .unset, .unset, .unset, .unset, .unset, .unset, .unset, .unset, .unset, .unset, .unset, .unset] [(.ref ms)])) (st141) ?_
  obtain ⟨cq142, kq142, q142a, q142b, q142c⟩ := isOf hZ e141 pr4
  obtain ⟨_, _, ⟨T142, LC142, kC142, nC142⟩, -, X142, ⟨Lc142, hQ142, lq142, yq142, zq142⟩, st142⟩ := X141.interfaceBack hx (xi := oM71) (y := oM24) hown (mvT hZ (own_hw hw 212)) (mvT hZ (own_hw hw 213)) (mvT hZ (own_hw hw 214)) (mvT hZ (own_hw hw 215)) (mvT hZ (own_hw hw 216)) (mvT hZ (own_hw hw 217)) (mvT hZ (own_hw hw 218)) (mvT hZ (own_hw hw 65)) (by decide) (backOf (W := 0) (rm30 l Z a0 hw [] ms cmp r1 h0 n0 (by omega) pr4 pr5 pr6 pr7 pr8 pr9 pr10 (by omega)) hZ (own_hw hw 219) (own_hw hw 17) (by decide) (by decide)) q142a q142b q142c (g := (mkF m 26 #[oR ab, .unset, .unset, .unset, .unset, .unset, .unset, .unset, .unset, .unset, .unset, .unset, .unset, .unset, .unset] [(.ref ms)])) rfl (by rw [hml]; rfl) (Steps.refl _) (argsL := []) (rest := []) (lenOf pd_30 rfl) rfl (by show 2 * 0 + _ ≤ _; exact Nat.le_of_eq rfl) (hb hby d27_26) (fun _ _ => ⟨rfl, e141, (by decide : 0 + 1 ≤ _), (by decide : 0 + 1 ≤ _)⟩)
  dsimp only [Pt.U, Pt.locs, Pt.cells, Pt.slots] at X142 lq142 yq142 zq142 st142 hQ142
  subst lq142 yq142 zq142
  obtain ⟨h142, e142⟩ : ∃ z, T142.heap = z := ⟨_, rfl⟩
  rw [e142] at hQ142
  obtain ⟨ks_142, rfl, Nq142, K142, g142_0, g142_1, g142_2, g142_3, g142_4, g142_5, g142_6, g142_7, g142_8, g142_9⟩ := hQ142
  have sz142 : h0.size ≤ h142.size := K142.1
  have N142 := Fr.app N139 Nq142
  have lt142_1 : @LT.lt Nat _ ms h142.size := g142_0.lt
  have lt142_2 : @LT.lt Nat _ ks_142 h142.size := g142_7.lt
  refine own_go (st' := T142.setTop (mkF m 31 #[oR ab, .unset, .unset, .unset, .unset, .unset, .unset, .unset, .unset, .unset, .unset, .unset, .unset, .unset, .unset] [(.ref ks_142)])) (fun _ k => st142.trans k) ?_
  have c144 : Fld Z h142 r1 oS1 "left" oS2 .null := (pr14.keep K142 (ninS own_nq nin0))
  obtain ⟨cq143, kq143, q143a, q143b, q143c⟩ := isOf hZ e142 g142_7
  obtain ⟨_, _, ⟨T143, LC143, kC143, nC143⟩, -, X143, ⟨Lc143, hQ143, lq143, yq143, zq143⟩, st143⟩ := X142.interfaceBack hx (xi := oM40) (y := oM26) hown (mvT hZ (own_hw hw 249)) (mvT hZ (own_hw hw 250)) (mvT hZ (own_hw hw 251)) (mvT hZ (own_hw hw 252)) (mvT hZ (own_hw hw 253)) (mvT hZ (own_hw hw 254)) (mvT hZ (own_hw hw 255)) (mvT hZ (own_hw hw 256)) (by decide) (backOf (W := 0) (rm35 l Z a0 hw [] ks_142 ms r1 h142 n0 (by omega) g142_7 g142_8 g142_0 g142_4 g142_2 c144) hZ (own_hw hw 257) (own_hw hw 229) (by decide) (by decide)) q143a q143b q143c (g := (mkF m 31 #[oR ab, .unset, .unset, .unset, .unset, .unset, .unset, .unset, .unset, .unset, .unset, .unset, .unset, .unset, .unset] [(.ref ks_142)])) rfl (by rw [hml]; rfl) (Steps.refl _) (argsL := []) (rest := []) (lenOf pd_23 rfl) rfl (by show 2 * 0 + _ ≤ _; exact Nat.le_of_eq rfl) (hb hby d27_31) (fun _ _ => ⟨rfl, e142, (by decide : 1 + 1 ≤ _), (by decide : 1 + 4 ≤ _)⟩)
  dsimp only [Pt.U, Pt.locs, Pt.cells, Pt.slots] at X143 lq143 yq143 zq143 st143 hQ143
  subst lq143 yq143 zq143
  obtain ⟨h143, e143⟩ : ∃ z, T143.heap = z := ⟨_, rfl⟩
  rw [e143] at hQ143
  obtain ⟨it_143, rfl, Nq143, K143, g143_0, g143_1, g143_2, g143_3, g143_4, g143_5⟩ := hQ143
  have sz143 : h142.size ≤ h143.size := K143.1
  have N143 := Fr.app N142 Nq143
  have lt143_1 : @LT.lt Nat _ it_143 h143.size := g143_0.lt
  refine own_go (st' := T143.setTop (mkF m 36 #[oR ab, .unset, .unset, .unset, .unset, .unset, .unset, .unset, .unset, .unset, .unset, .unset, .unset, .unset, .unset] [(.ref it_143)])) (fun _ k => st143.trans k) ?_
  have c146 : Fld Z h143 ms oS0 "modCount" "I" (.int (1 : Int32)) := (g142_4.keep K143 nin0)
  have c147 : Fld Z h143 r1 oS1 "right" oS2 .null := ((pr15.keep K142 (ninS own_nq nin0)).keep K143 nin0)
  have c148 : Fld Z h143 r1 oS1 "parent" oS2 .null := ((pr16.keep K142 (ninS own_nq nin0)).keep K143 nin0)
  have c149 : Exa Z h143 r1 oS1 := ((pr11.keep K142).keep K143)
  have c150 : Fld Z h143 r1 oS1 "key" oS8 (.ref ak) := ((pr12.keep K142 (ninS own_nq nin0)).keep K143 nin0)
  obtain ⟨cq145, kq145, q145a, q145b, q145c⟩ := isOf hZ e143 g143_0
  obtain ⟨_, _, ⟨T145, LC145, kC145, nC145⟩, -, X145, ⟨Lc145, hQ145, lq145, yq145, zq145⟩, st145⟩ := X143.interfaceBack hx (xi := oM42) (y := oM28) hown (mvT hZ (own_hw hw 295)) (mvT hZ (own_hw hw 296)) (mvT hZ (own_hw hw 297)) (mvT hZ (own_hw hw 298)) (mvT hZ (own_hw hw 299)) (mvT hZ (own_hw hw 300)) (mvT hZ (own_hw hw 301)) (mvT hZ (own_hw hw 302)) (by decide) (backOf (W := 0) (rm40 l Z a0 hw [] it_143 ms r1 ak h143 n0 (by omega) g143_0 g143_1 g143_2 g143_3 g143_4 c146 c147 c148 (by omega) own_nr own_nr c149 c150) hZ (own_hw hw 303) (own_hw hw 267) (by decide) (by decide)) q145a q145b q145c (g := (mkF m 36 #[oR ab, .unset, .unset, .unset, .unset, .unset, .unset, .unset, .unset, .unset, .unset, .unset, .unset, .unset, .unset] [(.ref it_143)])) rfl (by rw [hml]; rfl) (Steps.refl _) (argsL := []) (rest := []) (lenOf pd_32 rfl) rfl (by show 2 * 0 + _ ≤ _; exact Nat.le_of_eq rfl) (hb hby d27_36) (fun _ _ => ⟨rfl, e143, (by decide : 2 + 0 ≤ _), (by decide : 5 + 0 ≤ _)⟩)
  dsimp only [Pt.U, Pt.locs, Pt.cells, Pt.slots] at X145 lq145 yq145 zq145 st145 hQ145
  subst lq145 yq145 zq145
  obtain ⟨h145, e145⟩ : ∃ z, T145.heap = z := ⟨_, rfl⟩
  rw [e145] at hQ145
  obtain ⟨rfl, Nq145, K145, g145_0, g145_1, g145_2, g145_3, g145_4⟩ := hQ145
  have sz145 : h143.size ≤ h145.size := K145.1
  have N145 := Fr.app N143 Nq145
  have lt145_1 : @LT.lt Nat _ it_143 h145.size := g145_0.lt
  refine own_go (st' := T145.setTop (mkF m 41 #[oR ab, .unset, .unset, .unset, .unset, .unset, .unset, .unset, .unset, .unset, .unset, .unset, .unset, .unset, .unset] [(.ref ak)])) (fun _ k => st145.trans k) ?_
  have c152 : Exa Z h145 ak oS3 := (((pr17.keep K142).keep K143).keep K145)
  obtain ⟨T151, X151, e151, st151⟩ := castY X145 hx hZ hown (own_hw hw 95) e145 (Ins.self c152) (g := (mkF m 41 #[oR ab, .unset, .unset, .unset, .unset, .unset, .unset, .unset, .unset, .unset, .unset, .unset, .unset, .unset, .unset] [(.ref ak)])) rfl rfl (hb hby d27_41)
  refine own_go (st' := T151.setTop (mkF m 44 #[oR ab, .unset, .unset, .unset, .unset, .unset, .unset, .unset, .unset, .unset, .unset, .unset, .unset, .unset, .unset] [(.ref ak)])) (st151) ?_
  have c154 : Fld Z h145 ak oS3 "value" "J" (.long pl) := (((pr18.keep K142 (ninS own_nq nin0)).keep K143 nin0).keep K145 (ninS own_nq nin0))
  obtain ⟨cq153, kq153, q153a, q153b, q153c⟩ := isOf hZ e151 c152
  obtain ⟨_, _, ⟨T153, LC153, kC153, nC153⟩, -, X153, ⟨Lc153, hQ153, lq153, yq153, zq153⟩, st153⟩ := X151.virtualBack hx (y := oM0) (z := oM0) hown (mvT hZ (own_hw hw 97)) (mvT hZ (own_hw hw 98)) (notFace_of_selects (args := #[]) (mvT hZ (own_hw hw 100))) (mvT hZ (own_hw hw 100)) (mvT hZ (own_hw hw 99)) (by decide) (backOf (W := 0) (rm13 l Z a0 hw [] ak pl h145 n0 (by omega) c152 c154) hZ (own_hw hw 101) (own_hw hw 53) (by decide) (by decide)) q153a q153c (g := (mkF m 44 #[oR ab, .unset, .unset, .unset, .unset, .unset, .unset, .unset, .unset, .unset, .unset, .unset, .unset, .unset, .unset] [(.ref ak)])) rfl (by rw [hml]; rfl) (Steps.refl _) (argsL := []) (rest := []) (lenOf pd_16 rfl) rfl (by show 2 * 0 + _ ≤ _; exact Nat.le_of_eq rfl) (hb hby d27_44) (fun _ _ => ⟨rfl, e151, (by decide : 2 + 0 ≤ _), (by decide : 5 + 0 ≤ _)⟩)
  dsimp only [Pt.U, Pt.locs, Pt.cells, Pt.slots] at X153 lq153 yq153 zq153 st153 hQ153
  subst lq153 yq153 zq153
  obtain ⟨rfl, Nq153, eq153⟩ := hQ153
  have N153 := Fr.app N145 Nq153
  refine own_go (st' := T153.setTop (mkF m 47 #[oR ab, .unset, .unset, .unset, .unset, .unset, .unset, .unset, .unset, .unset, .unset, .unset, .unset, .unset, .unset] [(.long pl)])) (fun _ k => st153.trans k) ?_
  refine own_go (st' := T153.setTop (mkF m 48 #[oR ab, oj pl, .second, .unset, .unset, .unset, .unset, .unset, .unset, .unset, .unset, .unset, .unset, .unset, .unset] [])) (fun _ k => XS.lstoreN X153.here hx rfl (hb hby d27_47) rfl (l' := #[oR ab, oj pl, .second, .unset, .unset, .unset, .unset, .unset, .unset, .unset, .unset, .unset, .unset, .unset, .unset]) rfl k) ?_
  refine own_go (st' := T153.setTop (mkF m 49 #[oR ab, oj pl, .second, .unset, .unset, .unset, .unset, .unset, .unset, .unset, .unset, .unset, .unset, .unset, .unset] [(.ref ab)])) (fun _ k => XS.aloadN X153.here hx rfl (hb hby d27_48) rfl rfl k) ?_
  have c155 : Fld Z h145 ab oS5 "counts" oS13 (.ref mc) := (((pr3.keep K142 (ninS own_nq nin0)).keep K143 nin0).keep K145 (ninS own_nq nin0))
  obtain ⟨T156, X156, e156, st156⟩ := getF X153 hx hZ hown (host := "") (Or.inl (own_hw hw 38)) Via.refl eq153 c155 (g := (mkF m 49 #[oR ab, oj pl, .second, .unset, .unset, .unset, .unset, .unset, .unset, .unset, .unset, .unset, .unset, .unset, .unset] [(.ref ab)])) rfl rfl (hb hby d27_49)
  refine own_go (st' := T156.setTop (mkF m 52 #[oR ab, oj pl, .second, .unset, .unset, .unset, .unset, .unset, .unset, .unset, .unset, .unset, .unset, .unset, .unset] [(.ref mc)])) (st156) ?_
  have c158 : Exa Z h145 mc oS0 := (((pr21.keep K142).keep K143).keep K145)
  have c159 : Fld Z h145 mc oS0 "size" "I" (.int (1 : Int32)) := (((pr24.keep K142 (ninS own_nq nin0)).keep K143 nin0).keep K145 (ninS own_nq nin0))
  obtain ⟨cq157, kq157, q157a, q157b, q157c⟩ := isOf hZ e156 c158
  obtain ⟨_, _, ⟨T157, LC157, kC157, nC157⟩, -, X157, ⟨Lc157, hQ157, lq157, yq157, zq157⟩, st157⟩ := X156.interfaceBack hx (xi := oM70) (y := oM11) hown (mvT hZ (own_hw hw 198)) (mvT hZ (own_hw hw 199)) (mvT hZ (own_hw hw 200)) (mvT hZ (own_hw hw 201)) (mvT hZ (own_hw hw 202)) (mvT hZ (own_hw hw 203)) (mvT hZ (own_hw hw 204)) (mvT hZ (own_hw hw 65)) (by decide) (backOf (W := 0) (rm28 l Z a0 hw [] mc h145 n0 (by omega) c158 c159) hZ (own_hw hw 205) (own_hw hw 27) (by decide) (by decide)) q157a q157b q157c (g := (mkF m 52 #[oR ab, oj pl, .second, .unset, .unset, .unset, .unset, .unset, .unset, .unset, .unset, .unset, .unset, .unset, .unset] [(.ref mc)])) rfl (by rw [hml]; rfl) (Steps.refl _) (argsL := []) (rest := []) (lenOf pd_31 rfl) rfl (by show 2 * 0 + _ ≤ _; exact Nat.le_of_eq rfl) (hb hby d27_52) (fun _ _ => ⟨rfl, e156, (by decide : 2 + 0 ≤ _), (by decide : 5 + 0 ≤ _)⟩)
  dsimp only [Pt.U, Pt.locs, Pt.cells, Pt.slots] at X157 lq157 yq157 zq157 st157 hQ157
  subst lq157 yq157 zq157
  obtain ⟨rfl, Nq157, eq157⟩ := hQ157
  have N157 := Fr.app N153 Nq157
  refine own_go (st' := T157.setTop (mkF m 57 #[oR ab, oj pl, .second, .unset, .unset, .unset, .unset, .unset, .unset, .unset, .unset, .unset, .unset, .unset, .unset] [(.int (0 : Int32))])) (fun _ k => st157.trans k) ?_
  have hc160 : (0 : Int32) = (0 : Int32) := by decide
  refine own_go (st' := T157.setTop (mkF m 64 #[oR ab, oj pl, .second, .unset, .unset, .unset, .unset, .unset, .unset, .unset, .unset, .unset, .unset, .unset, .unset] [])) (fun _ k => XS.ifYes X157.here hx rfl (pc0 := 57) (pc' := 64) rfl (hb hby d27_57) rfl ((if0 _ _).trans (teq hc160).1) (by decide) (by decide) k) ?_
  refine own_go (st' := T157.setTop (mkF m 65 #[oR ab, oj pl, .second, .unset, .unset, .unset, .unset, .unset, .unset, .unset, .unset, .unset, .unset, .unset, .unset] [(.ref ab)])) (fun _ k => XS.aloadN X157.here hx rfl (hb hby d27_64) rfl rfl k) ?_
  obtain ⟨T161, X161, e161, st161⟩ := getF X157 hx hZ hown (host := "") (Or.inl (own_hw hw 38)) Via.refl eq157 c155 (g := (mkF m 65 #[oR ab, oj pl, .second, .unset, .unset, .unset, .unset, .unset, .unset, .unset, .unset, .unset, .unset, .unset, .unset] [(.ref ab)])) rfl rfl (hb hby d27_65)
  refine own_go (st' := T161.setTop (mkF m 68 #[oR ab, oj pl, .second, .unset, .unset, .unset, .unset, .unset, .unset, .unset, .unset, .unset, .unset, .unset, .unset] [(.ref mc)])) (st161) ?_
  have c163 : Fld Z h145 mc oS0 "comparator" oS6 (.ref cmp) := (((pr22.keep K142 (ninS own_nq nin0)).keep K143 nin0).keep K145 (ninS own_nq nin0))
  have c164 : Fld Z h145 mc oS0 "root" oS2 (.ref r2) := (((pr23.keep K142 (ninS own_nq nin0)).keep K143 nin0).keep K145 (ninS own_nq nin0))
  have c165 : Fld Z h145 mc oS0 "modCount" "I" (.int (1 : Int32)) := (((pr25.keep K142 (ninS own_nq nin0)).keep K143 nin0).keep K145 (ninS own_nq nin0))
  have c166 : Fld Z h145 mc oS0 oS10 oS11 .null := (((pr26.keep K142 (ninS own_nq nin0)).keep K143 nin0).keep K145 (ninS own_nq nin0))
  have c167 : Fld Z h145 mc oS0 "entrySet" oS12 .null := (((pr27.keep K142 (ninS own_nq nin0)).keep K143 nin0).keep K145 (ninS own_nq nin0))
  obtain ⟨cq162, kq162, q162a, q162b, q162c⟩ := isOf hZ e161 c158
  obtain ⟨_, _, ⟨T162, LC162, kC162, nC162⟩, -, X162, ⟨Lc162, hQ162, lq162, yq162, zq162⟩, st162⟩ := X161.interfaceBack hx (xi := oM71) (y := oM24) hown (mvT hZ (own_hw hw 212)) (mvT hZ (own_hw hw 213)) (mvT hZ (own_hw hw 214)) (mvT hZ (own_hw hw 215)) (mvT hZ (own_hw hw 216)) (mvT hZ (own_hw hw 217)) (mvT hZ (own_hw hw 218)) (mvT hZ (own_hw hw 65)) (by decide) (backOf (W := 0) (rm30 l Z a0 hw [] mc cmp r2 h145 n0 (by omega) c158 c163 c164 c159 c165 c166 c167 (by omega)) hZ (own_hw hw 219) (own_hw hw 17) (by decide) (by decide)) q162a q162b q162c (g := (mkF m 68 #[oR ab, oj pl, .second, .unset, .unset, .unset, .unset, .unset, .unset, .unset, .unset, .unset, .unset, .unset, .unset] [(.ref mc)])) rfl (by rw [hml]; rfl) (Steps.refl _) (argsL := []) (rest := []) (lenOf pd_30 rfl) rfl (by show 2 * 0 + _ ≤ _; exact Nat.le_of_eq rfl) (hb hby d27_68) (fun _ _ => ⟨rfl, e161, (by decide : 2 + 1 ≤ _), (by decide : 5 + 1 ≤ _)⟩)
  dsimp only [Pt.U, Pt.locs, Pt.cells, Pt.slots] at X162 lq162 yq162 zq162 st162 hQ162
  subst lq162 yq162 zq162
  obtain ⟨h162, e162⟩ : ∃ z, T162.heap = z := ⟨_, rfl⟩
  rw [e162] at hQ162
  obtain ⟨ks_162, rfl, Nq162, K162, g162_0, g162_1, g162_2, g162_3, g162_4, g162_5, g162_6, g162_7, g162_8, g162_9⟩ := hQ162
  have sz162 : h145.size ≤ h162.size := K162.1
  have N162 := Fr.app N157 Nq162
  have lt162_1 : @LT.lt Nat _ mc h162.size := g162_0.lt
  have lt162_2 : @LT.lt Nat _ ks_162 h162.size := g162_7.lt
  refine own_go (st' := T162.setTop (mkF m 73 #[oR ab, oj pl, .second, .unset, .unset, .unset, .unset, .unset, .unset, .unset, .unset, .unset, .unset, .unset, .unset] [(.ref ks_162)])) (fun _ k => st162.trans k) ?_
  have c169 : Fld Z h162 r2 oS1 "left" oS2 .null := ((((pr31.keep K142 (ninS own_nq nin0)).keep K143 nin0).keep K145 (ninS own_nq nin0)).keep K162 (ninS own_nq nin0))
  obtain ⟨cq168, kq168, q168a, q168b, q168c⟩ := isOf hZ e162 g162_7
  obtain ⟨_, _, ⟨T168, LC168, kC168, nC168⟩, -, X168, ⟨Lc168, hQ168, lq168, yq168, zq168⟩, st168⟩ := X162.interfaceBack hx (xi := oM40) (y := oM26) hown (mvT hZ (own_hw hw 249)) (mvT hZ (own_hw hw 250)) (mvT hZ (own_hw hw 251)) (mvT hZ (own_hw hw 252)) (mvT hZ (own_hw hw 253)) (mvT hZ (own_hw hw 254)) (mvT hZ (own_hw hw 255)) (mvT hZ (own_hw hw 256)) (by decide) (backOf (W := 0) (rm35 l Z a0 hw [] ks_162 mc r2 h162 n0 (by omega) g162_7 g162_8 g162_0 g162_4 g162_2 c169) hZ (own_hw hw 257) (own_hw hw 229) (by decide) (by decide)) q168a q168b q168c (g := (mkF m 73 #[oR ab, oj pl, .second, .unset, .unset, .unset, .unset, .unset, .unset, .unset, .unset, .unset, .unset, .unset, .unset] [(.ref ks_162)])) rfl (by rw [hml]; rfl) (Steps.refl _) (argsL := []) (rest := []) (lenOf pd_23 rfl) rfl (by show 2 * 0 + _ ≤ _; exact Nat.le_of_eq rfl) (hb hby d27_73) (fun _ _ => ⟨rfl, e162, (by decide : 3 + 1 ≤ _), (by decide : 6 + 4 ≤ _)⟩)
  dsimp only [Pt.U, Pt.locs, Pt.cells, Pt.slots] at X168 lq168 yq168 zq168 st168 hQ168
  subst lq168 yq168 zq168
  obtain ⟨h168, e168⟩ : ∃ z, T168.heap = z := ⟨_, rfl⟩
  rw [e168] at hQ168
  obtain ⟨it_168, rfl, Nq168, K168, g168_0, g168_1, g168_2, g168_3, g168_4, g168_5⟩ := hQ168
  have sz168 : h162.size ≤ h168.size := K168.1
  have N168 := Fr.app N162 Nq168
  have lt168_1 : @LT.lt Nat _ it_168 h168.size := g168_0.lt
  refine own_go (st' := T168.setTop (mkF m 78 #[oR ab, oj pl, .second, .unset, .unset, .unset, .unset, .unset, .unset, .unset, .unset, .unset, .unset, .unset, .unset] [(.ref it_168)])) (fun _ k => st168.trans k) ?_
  have c171 : Fld Z h168 mc oS0 "modCount" "I" (.int (1 : Int32)) := (g162_4.keep K168 nin0)
  have c172 : Fld Z h168 r2 oS1 "right" oS2 .null := (((((pr32.keep K142 (ninS own_nq nin0)).keep K143 nin0).keep K145 (ninS own_nq nin0)).keep K162 (ninS own_nq nin0)).keep K168 nin0)
  have c173 : Fld Z h168 r2 oS1 "parent" oS2 .null := (((((pr33.keep K142 (ninS own_nq nin0)).keep K143 nin0).keep K145 (ninS own_nq nin0)).keep K162 (ninS own_nq nin0)).keep K168 nin0)
  have c174 : Exa Z h168 r2 oS1 := (((((pr28.keep K142).keep K143).keep K145).keep K162).keep K168)
  have c175 : Fld Z h168 r2 oS1 "key" oS8 (.ref bk) := (((((pr29.keep K142 (ninS own_nq nin0)).keep K143 nin0).keep K145 (ninS own_nq nin0)).keep K162 (ninS own_nq nin0)).keep K168 nin0)
  obtain ⟨cq170, kq170, q170a, q170b, q170c⟩ := isOf hZ e168 g168_0
  obtain ⟨_, _, ⟨T170, LC170, kC170, nC170⟩, -, X170, ⟨Lc170, hQ170, lq170, yq170, zq170⟩, st170⟩ := X168.interfaceBack hx (xi := oM42) (y := oM28) hown (mvT hZ (own_hw hw 295)) (mvT hZ (own_hw hw 296)) (mvT hZ (own_hw hw 297)) (mvT hZ (own_hw hw 298)) (mvT hZ (own_hw hw 299)) (mvT hZ (own_hw hw 300)) (mvT hZ (own_hw hw 301)) (mvT hZ (own_hw hw 302)) (by decide) (backOf (W := 0) (rm40 l Z a0 hw [] it_168 mc r2 bk h168 n0 (by omega) g168_0 g168_1 g168_2 g168_3 g168_4 c171 c172 c173 (by omega) own_nr own_nr c174 c175) hZ (own_hw hw 303) (own_hw hw 267) (by decide) (by decide)) q170a q170b q170c (g := (mkF m 78 #[oR ab, oj pl, .second, .unset, .unset, .unset, .unset, .unset, .unset, .unset, .unset, .unset, .unset, .unset, .unset] [(.ref it_168)])) rfl (by rw [hml]; rfl) (Steps.refl _) (argsL := []) (rest := []) (lenOf pd_32 rfl) rfl (by show 2 * 0 + _ ≤ _; exact Nat.le_of_eq rfl) (hb hby d27_78) (fun _ _ => ⟨rfl, e168, (by decide : 4 + 0 ≤ _), (by decide : 10 + 0 ≤ _)⟩)
  dsimp only [Pt.U, Pt.locs, Pt.cells, Pt.slots] at X170 lq170 yq170 zq170 st170 hQ170
  subst lq170 yq170 zq170
  obtain ⟨h170, e170⟩ : ∃ z, T170.heap = z := ⟨_, rfl⟩
  rw [e170] at hQ170
  obtain ⟨rfl, Nq170, K170, g170_0, g170_1, g170_2, g170_3, g170_4⟩ := hQ170
  have sz170 : h168.size ≤ h170.size := K170.1
  have N170 := Fr.app N168 Nq170
  have lt170_1 : @LT.lt Nat _ it_168 h170.size := g170_0.lt
  refine own_go (st' := T170.setTop (mkF m 83 #[oR ab, oj pl, .second, .unset, .unset, .unset, .unset, .unset, .unset, .unset, .unset, .unset, .unset, .unset, .unset] [(.ref bk)])) (fun _ k => st170.trans k) ?_
  have c177 : Exa Z h170 bk oS3 := ((((((pr34.keep K142).keep K143).keep K145).keep K162).keep K168).keep K170)
  obtain ⟨T176, X176, e176, st176⟩ := castY X170 hx hZ hown (own_hw hw 95) e170 (Ins.self c177) (g := (mkF m 83 #[oR ab, oj pl, .second, .unset, .unset, .unset, .unset, .unset, .unset, .unset, .unset, .unset, .unset, .unset, .unset] [(.ref bk)])) rfl rfl (hb hby d27_83)
  refine own_go (st' := T176.setTop (mkF m 86 #[oR ab, oj pl, .second, .unset, .unset, .unset, .unset, .unset, .unset, .unset, .unset, .unset, .unset, .unset, .unset] [(.ref bk)])) (st176) ?_
  have c179 : Fld Z h170 bk oS3 "value" "J" (.long pm) := ((((((pr35.keep K142 (ninS own_nq nin0)).keep K143 nin0).keep K145 (ninS own_nq nin0)).keep K162 (ninS own_nq nin0)).keep K168 nin0).keep K170 (ninS own_nq nin0))
  obtain ⟨cq178, kq178, q178a, q178b, q178c⟩ := isOf hZ e176 c177
  obtain ⟨_, _, ⟨T178, LC178, kC178, nC178⟩, -, X178, ⟨Lc178, hQ178, lq178, yq178, zq178⟩, st178⟩ := X176.virtualBack hx (y := oM0) (z := oM0) hown (mvT hZ (own_hw hw 97)) (mvT hZ (own_hw hw 98)) (notFace_of_selects (args := #[]) (mvT hZ (own_hw hw 100))) (mvT hZ (own_hw hw 100)) (mvT hZ (own_hw hw 99)) (by decide) (backOf (W := 0) (rm13 l Z a0 hw [] bk pm h170 n0 (by omega) c177 c179) hZ (own_hw hw 101) (own_hw hw 53) (by decide) (by decide)) q178a q178c (g := (mkF m 86 #[oR ab, oj pl, .second, .unset, .unset, .unset, .unset, .unset, .unset, .unset, .unset, .unset, .unset, .unset, .unset] [(.ref bk)])) rfl (by rw [hml]; rfl) (Steps.refl _) (argsL := []) (rest := []) (lenOf pd_16 rfl) rfl (by show 2 * 0 + _ ≤ _; exact Nat.le_of_eq rfl) (hb hby d27_86) (fun _ _ => ⟨rfl, e176, (by decide : 4 + 0 ≤ _), (by decide : 10 + 0 ≤ _)⟩)
  dsimp only [Pt.U, Pt.locs, Pt.cells, Pt.slots] at X178 lq178 yq178 zq178 st178 hQ178
  subst lq178 yq178 zq178
  obtain ⟨rfl, Nq178, eq178⟩ := hQ178
  have N178 := Fr.app N170 Nq178
  refine own_go (st' := T178.setTop (mkF m 89 #[oR ab, oj pl, .second, .unset, .unset, .unset, .unset, .unset, .unset, .unset, .unset, .unset, .unset, .unset, .unset] [(.long pm)])) (fun _ k => st178.trans k) ?_
  refine own_go (st' := T178.setTop (mkF m 90 #[oR ab, oj pl, .second, oj pm, .second, .unset, .unset, .unset, .unset, .unset, .unset, .unset, .unset, .unset, .unset] [])) (fun _ k => XS.lstoreN X178.here hx rfl (hb hby d27_89) rfl (l' := #[oR ab, oj pl, .second, oj pm, .second, .unset, .unset, .unset, .unset, .unset, .unset, .unset, .unset, .unset, .unset]) rfl k) ?_
  refine own_go (st' := T178.setTop (mkF m 91 #[oR ab, oj pl, .second, oj pm, .second, .unset, .unset, .unset, .unset, .unset, .unset, .unset, .unset, .unset, .unset] [(.long pm)])) (fun _ k => XS.lloadN X178.here hx rfl (hb hby d27_90) rfl k) ?_
  refine own_go (st' := T178.setTop (mkF m 92 #[oR ab, oj pl, .second, oj pm, .second, .unset, .unset, .unset, .unset, .unset, .unset, .unset, .unset, .unset, .unset] [(.long pl), (.long pm)])) (fun _ k => XS.lloadN X178.here hx rfl (hb hby d27_91) rfl k) ?_
  refine own_go (st' := T178.setTop (mkF m 93 #[oR ab, oj pl, .second, oj pm, .second, .unset, .unset, .unset, .unset, .unset, .unset, .unset, .unset, .unset, .unset] [(.int (lcmpW pm pl))])) (fun _ k => XS.lcmp X178.here hx rfl (hb hby d27_92) rfl k) ?_
  have hc180 : ¬ (pl < pm) := hlm
  refine own_go (st' := T178.setTop (mkF m 109 #[oR ab, oj pl, .second, oj pm, .second, .unset, .unset, .unset, .unset, .unset, .unset, .unset, .unset, .unset, .unset] [])) (fun _ k => XS.ifYes X178.here hx rfl (pc0 := 93) (pc' := 109) rfl (hb hby d27_93) rfl ((if0 _ _).trans (flt (fun q_ => hc180 ((lw_gt pm pl).mp q_))).2.2.2) (by decide) (by decide) k) ?_
  have c181 : Exa Z h170 ab oS5 := ((((((pr1.keep K142).keep K143).keep K145).keep K162).keep K168).keep K170)
  have c182 : Fld Z h170 ab oS5 "stock" oS13 (.ref ms) := ((((((pr2.keep K142 (ninS own_nq nin0)).keep K143 nin0).keep K145 (ninS own_nq nin0)).keep K162 (ninS own_nq nin0)).keep K168 nin0).keep K170 (ninS own_nq nin0))
  have c183 : Fld Z h170 ab oS5 "counts" oS13 (.ref mc) := (((c155.keep K162 (ninS own_nq nin0)).keep K168 nin0).keep K170 (ninS own_nq nin0))
  have c184 : Exa Z h170 ms oS0 := (((((g142_0.keep K143).keep K145).keep K162).keep K168).keep K170)
  have c185 : Fld Z h170 ms oS0 "comparator" oS6 (.ref cmp) := (((((g142_1.keep K143 nin0).keep K145 (ninS own_nq nin0)).keep K162 (ninS own_nq nin0)).keep K168 nin0).keep K170 (ninS own_nq nin0))
  have c186 : Fld Z h170 ms oS0 "root" oS2 (.ref r1) := (((((g142_2.keep K143 nin0).keep K145 (ninS own_nq nin0)).keep K162 (ninS own_nq nin0)).keep K168 nin0).keep K170 (ninS own_nq nin0))
  have c187 : Fld Z h170 ms oS0 "size" "I" (.int (1 : Int32)) := (((((g142_3.keep K143 nin0).keep K145 (ninS own_nq nin0)).keep K162 (ninS own_nq nin0)).keep K168 nin0).keep K170 (ninS own_nq nin0))
  have c188 : Fld Z h170 ms oS0 "modCount" "I" (.int (1 : Int32)) := ((((c146.keep K145 (ninS own_nq nin0)).keep K162 (ninS own_nq nin0)).keep K168 nin0).keep K170 (ninS own_nq nin0))
  have c189 : Fld Z h170 ms oS0 oS10 oS11 (.ref ks_142) := (((((g142_5.keep K143 nin0).keep K145 (ninS own_nq nin0)).keep K162 (ninS own_nq nin0)).keep K168 nin0).keep K170 (ninS own_nq nin0))
  have c190 : Fld Z h170 ms oS0 "entrySet" oS12 .null := (((((g142_6.keep K143 nin0).keep K145 (ninS own_nq nin0)).keep K162 (ninS own_nq nin0)).keep K168 nin0).keep K170 (ninS own_nq nin0))
  have c191 : Exa Z h170 r1 oS1 := ((((c149.keep K145).keep K162).keep K168).keep K170)
  have c192 : Fld Z h170 r1 oS1 "key" oS8 (.ref ak) := ((((c150.keep K145 (ninS own_nq nin0)).keep K162 (ninS own_nq nin0)).keep K168 nin0).keep K170 (ninS own_nq nin0))
  have c193 : Fld Z h170 r1 oS1 "value" oS8 (.ref av) := ((((((pr13.keep K142 (ninS own_nq nin0)).keep K143 nin0).keep K145 (ninS own_nq nin0)).keep K162 (ninS own_nq nin0)).keep K168 nin0).keep K170 (ninS own_nq nin0))
  have c194 : Fld Z h170 r1 oS1 "left" oS2 .null := (((((c144.keep K143 nin0).keep K145 (ninS own_nq nin0)).keep K162 (ninS own_nq nin0)).keep K168 nin0).keep K170 (ninS own_nq nin0))
  have c195 : Fld Z h170 r1 oS1 "right" oS2 .null := ((((c147.keep K145 (ninS own_nq nin0)).keep K162 (ninS own_nq nin0)).keep K168 nin0).keep K170 (ninS own_nq nin0))
  have c196 : Fld Z h170 r1 oS1 "parent" oS2 .null := ((((c148.keep K145 (ninS own_nq nin0)).keep K162 (ninS own_nq nin0)).keep K168 nin0).keep K170 (ninS own_nq nin0))
  have c197 : Exa Z h170 ak oS3 := (((c152.keep K162).keep K168).keep K170)
  have c198 : Fld Z h170 ak oS3 "value" "J" (.long pl) := (((c154.keep K162 (ninS own_nq nin0)).keep K168 nin0).keep K170 (ninS own_nq nin0))
  have c199 : Exa Z h170 av oS3 := ((((((pr19.keep K142).keep K143).keep K145).keep K162).keep K168).keep K170)
  have c200 : Fld Z h170 av oS3 "value" "J" (.long (9223372036854775807 : Int64)) := ((((((pr20.keep K142 (ninS own_nq nin0)).keep K143 nin0).keep K145 (ninS own_nq nin0)).keep K162 (ninS own_nq nin0)).keep K168 nin0).keep K170 (ninS own_nq nin0))
  have c201 : Exa Z h170 mc oS0 := ((g162_0.keep K168).keep K170)
  have c202 : Fld Z h170 mc oS0 "comparator" oS6 (.ref cmp) := ((g162_1.keep K168 nin0).keep K170 (ninS own_nq nin0))
  have c203 : Fld Z h170 mc oS0 "root" oS2 (.ref r2) := ((g162_2.keep K168 nin0).keep K170 (ninS own_nq nin0))
  have c204 : Fld Z h170 mc oS0 "size" "I" (.int (1 : Int32)) := ((g162_3.keep K168 nin0).keep K170 (ninS own_nq nin0))
  have c205 : Fld Z h170 mc oS0 "modCount" "I" (.int (1 : Int32)) := (c171.keep K170 (ninS own_nq nin0))
  have c206 : Fld Z h170 mc oS0 oS10 oS11 (.ref ks_162) := ((g162_5.keep K168 nin0).keep K170 (ninS own_nq nin0))
  have c207 : Fld Z h170 mc oS0 "entrySet" oS12 .null := ((g162_6.keep K168 nin0).keep K170 (ninS own_nq nin0))
  have c208 : Exa Z h170 r2 oS1 := (c174.keep K170)
  have c209 : Fld Z h170 r2 oS1 "key" oS8 (.ref bk) := (c175.keep K170 (ninS own_nq nin0))
  have c210 : Fld Z h170 r2 oS1 "value" oS8 (.ref bv) := ((((((pr30.keep K142 (ninS own_nq nin0)).keep K143 nin0).keep K145 (ninS own_nq nin0)).keep K162 (ninS own_nq nin0)).keep K168 nin0).keep K170 (ninS own_nq nin0))
  have c211 : Fld Z h170 r2 oS1 "left" oS2 .null := ((c169.keep K168 nin0).keep K170 (ninS own_nq nin0))
  have c212 : Fld Z h170 r2 oS1 "right" oS2 .null := (c172.keep K170 (ninS own_nq nin0))
  have c213 : Fld Z h170 r2 oS1 "parent" oS2 .null := (c173.keep K170 (ninS own_nq nin0))
  have c214 : Exa Z h170 bv oS3 := ((((((pr36.keep K142).keep K143).keep K145).keep K162).keep K168).keep K170)
  have c215 : Fld Z h170 bv oS3 "value" "J" (.long pc) := ((((((pr37.keep K142 (ninS own_nq nin0)).keep K143 nin0).keep K145 (ninS own_nq nin0)).keep K162 (ninS own_nq nin0)).keep K168 nin0).keep K170 (ninS own_nq nin0))
  exact J109_67 _ _ _ ks_142 ks_162 X178 eq178 N178 (by omega) (((((((Keep.refl h0 [ms, mc]).trans K142 (allS (P := fun x => x ∈ [ms, mc] ∨ h0.size ≤ x) (Or.inl (List.mem_of_getElem? (i := 0) rfl)) all0)).trans K143 all0).trans K145 (allS (P := fun x => x ∈ [ms, mc] ∨ h0.size ≤ x) (Or.inr (by omega)) all0)).trans K162 (allS (P := fun x => x ∈ [ms, mc] ∨ h0.size ≤ x) (Or.inl (List.mem_of_getElem? (i := 1) rfl)) all0)).trans K168 all0).trans K170 (allS (P := fun x => x ∈ [ms, mc] ∨ h0.size ≤ x) (Or.inr (by omega)) all0)) c181 c182 c183 c184 c185 c186 c187 c188 c189 c190 c191 c192 c193 c194 c195 c196 c197 c198 c199 c200 c201 c202 c203 c204 c205 c206 c207 c208 c209 c210 c211 c212 c213 c177 c179 c214 c215
theorem d57_0 : decode jdk_65_method_149_code 0 = .ok (.aload_n 0, 1) := by decide +kernel
theorem d57_1 : decode jdk_65_method_149_code 1 = .ok (.ifnonnull 5, 3) := by decide +kernel
theorem d57_6 : decode jdk_65_method_149_code 6 = .ok (.iconst 1, 1) := by decide +kernel
theorem d57_7 : decode jdk_65_method_149_code 7 = .ok (.istore_n 1, 1) := by decide +kernel
theorem d57_8 : decode jdk_65_method_149_code 8 = .ok (.aload_n 0, 1) := by decide +kernel
theorem d57_9 : decode jdk_65_method_149_code 9 = .ok (.astore_n 2, 1) := by decide +kernel
theorem d57_10 : decode jdk_65_method_149_code 10 = .ok (.aload_n 2, 1) := by decide +kernel
theorem d57_11 : decode jdk_65_method_149_code 11 = .ok (.arraylength, 1) := by decide +kernel
theorem d57_12 : decode jdk_65_method_149_code 12 = .ok (.istore_n 3, 1) := by decide +kernel
theorem d57_13 : decode jdk_65_method_149_code 13 = .ok (.iconst 0, 1) := by decide +kernel
theorem d57_14 : decode jdk_65_method_149_code 14 = .ok (.istore 4, 2) := by decide +kernel
theorem d57_16 : decode jdk_65_method_149_code 16 = .ok (.iload 4, 2) := by decide +kernel
theorem d57_18 : decode jdk_65_method_149_code 18 = .ok (.iload_n 3, 1) := by decide +kernel
theorem d57_19 : decode jdk_65_method_149_code 19 = .ok (.if_icmp .ge 34, 3) := by decide +kernel
theorem d57_22 : decode jdk_65_method_149_code 22 = .ok (.aload_n 2, 1) := by decide +kernel
theorem d57_23 : decode jdk_65_method_149_code 23 = .ok (.iload 4, 2) := by decide +kernel
theorem d57_25 : decode jdk_65_method_149_code 25 = .ok (.laload, 1) := by decide +kernel
theorem d57_26 : decode jdk_65_method_149_code 26 = .ok (.lstore 5, 2) := by decide +kernel
theorem d57_28 : decode jdk_65_method_149_code 28 = .ok (.lload 5, 2) := by decide +kernel
theorem d57_30 : decode jdk_65_method_149_code 30 = .ok (.lload 5, 2) := by decide +kernel
theorem d57_32 : decode jdk_65_method_149_code 32 = .ok (.bipush 32, 2) := by decide +kernel
theorem d57_34 : decode jdk_65_method_149_code 34 = .ok (.lushr, 1) := by decide +kernel
theorem d57_35 : decode jdk_65_method_149_code 35 = .ok (.lxor, 1) := by decide +kernel
theorem d57_36 : decode jdk_65_method_149_code 36 = .ok (.l2i, 1) := by decide +kernel
theorem d57_37 : decode jdk_65_method_149_code 37 = .ok (.istore 7, 2) := by decide +kernel
theorem d57_39 : decode jdk_65_method_149_code 39 = .ok (.bipush 31, 2) := by decide +kernel
theorem d57_41 : decode jdk_65_method_149_code 41 = .ok (.iload_n 1, 1) := by decide +kernel
theorem d57_42 : decode jdk_65_method_149_code 42 = .ok (.imul, 1) := by decide +kernel
theorem d57_43 : decode jdk_65_method_149_code 43 = .ok (.iload 7, 2) := by decide +kernel
theorem d57_45 : decode jdk_65_method_149_code 45 = .ok (.iadd, 1) := by decide +kernel
theorem d57_46 : decode jdk_65_method_149_code 46 = .ok (.istore_n 1, 1) := by decide +kernel
theorem d57_47 : decode jdk_65_method_149_code 47 = .ok (.iinc 4 1, 3) := by decide +kernel
theorem d57_50 : decode jdk_65_method_149_code 50 = .ok (.goto (-34), 3) := by decide +kernel
theorem d57_53 : decode jdk_65_method_149_code 53 = .ok (.iload_n 1, 1) := by decide +kernel
theorem d57_54 : decode jdk_65_method_149_code 54 = .ok (.ireturn, 1) := by decide +kernel
theorem pn_57 : plainName "java/util/Arrays" = true := by first | (simp [plainName, overriddenIn]; done) | decide +kernel
theorem ef_rm57 (m : MethodId) (x0 : Addr) : entryFrame m #[(.ref x0)] 8 = mkF m 0 #[.val (.ref x0), .unset, .unset, .unset, .unset, .unset, .unset, .unset] [] := by first | (simp [entryFrame, mkF, argsToLocals, Value.category]; done) | rfl
def Qrm57 (Z : State) (ax : Addr) (kx : ClassId) (q1 : Int64) (h0 : Heap) (n0 : Nat) (v : Option Value) (h : Heap) (L : List Loc) : Prop := ∃ (r : Int32), (v = some (.int r)) ∧ (Fr n0 L) ∧ (h = h0)
set_option maxRecDepth 65536 in
set_option maxHeartbeats 40000000 in
theorem rm57 (l : Launch) (Z : State) (a0 : Array Value) (hw : ∀ d ∈ tables_1, d.before a0 Z = true) (ws : List Jvm.Cond) (ax : Addr) (kx : ClassId) (q1 : Int64) (h0 : Heap) (n0 : Nat) (Z0 : n0 ≤ h0.size) (pr1 : Arv Z h0 ax kx .long (1 : Int32) [(.long q1)] (.long (0 : Int64))) :
    MetFree l oM65 (head1 (Jvm.Cond.code oM65 jdk_65_method_149_code 8 (some .int) :: ws) ({ frames := 0, cells := 0, slots := 0, locals := 0 } : Room)) (fun a U => a = #[(.ref ax)] ∧ Z.Warmed39 U.vm ∧ U.heap = h0) (fun _ _ _ _ _ => True) (fun _ U o U' => ∃ v L, o = .returned v ∧ Qrm57 Z ax kx q1 h0 n0 v U'.heap L ∧ FrameEnd U o U' L ({ frames := 0, cells := 0, slots := 0, locals := 0 } : Room).cells ({ frames := 0, cells := 0, slots := 0, locals := 0 } : Room).slots) := by
  refine MetFree.of_bodySF (plainFor_of_name pn_57) hisR ?_
  intro p e s m args below meth c s₁ Bd hml0 hP0 hK
  obtain ⟨rfl, hZ, hh⟩ := hP0
  have hx := Bd.exec
  have hby := Bd.bytes
  have hml : c.maxLocals = 8 := hml0
  have hown : s.vm.findClass "java/util/Arrays" = some m.cls := findClass_of_methodNamed Bd.named
  have hnm := (name_of_methodNamed Bd.named Bd.method).1
  have X0 : Stand p l e ({ frames := 0, cells := 0, slots := 0, locals := 0 } : Room) s m #[(.ref ax)] below meth c s₁ [] 0 0 := Stand.of_body Bd
  have e0 : s₁.heap = h0 := by rw [← hh, Bd.state]; rfl
  have N0 := Fr.nil n0
  refine own_fin (st' := s₁.setTop (mkF m 0 #[oR ax, .unset, .unset, .unset, .unset, .unset, .unset, .unset] [])) (fun _ k => castTop (ef_rm57 m ax) k) (fun P hP => ?_)
  have lt_ax : @LT.lt Nat _ ax h0.size := pr1.lt
  refine own_go (st' := s₁.setTop (mkF m 1 #[oR ax, .unset, .unset, .unset, .unset, .unset, .unset, .unset] [(.ref ax)])) (fun _ k => XS.aloadN X0.here hx rfl (hb hby d57_0) rfl rfl k) ?_
  refine own_go (st' := s₁.setTop (mkF m 6 #[oR ax, .unset, .unset, .unset, .unset, .unset, .unset, .unset] [])) (fun _ k => XS.ifnonnullYes X0.here hx rfl (pc0 := 1) (pc' := 6) rfl (hb hby d57_1) rfl (by decide) (by decide) k) ?_
  refine own_go (st' := s₁.setTop (mkF m 7 #[oR ax, .unset, .unset, .unset, .unset, .unset, .unset, .unset] [(.int (1 : Int32))])) (fun _ k => XS.iconst X0.here hx rfl (hb hby d57_6) k) ?_
  refine own_go (st' := s₁.setTop (mkF m 8 #[oR ax, oi 1, .unset, .unset, .unset, .unset, .unset, .unset] [])) (fun _ k => XS.istoreN X0.here hx rfl (hb hby d57_7) rfl (l' := #[oR ax, oi 1, .unset, .unset, .unset, .unset, .unset, .unset]) rfl k) ?_
  refine own_go (st' := s₁.setTop (mkF m 9 #[oR ax, oi 1, .unset, .unset, .unset, .unset, .unset, .unset] [(.ref ax)])) (fun _ k => XS.aloadN X0.here hx rfl (hb hby d57_8) rfl rfl k) ?_
  refine own_go (st' := s₁.setTop (mkF m 10 #[oR ax, oi 1, oR ax, .unset, .unset, .unset, .unset, .unset] [])) (fun _ k => XS.astoreN X0.here hx rfl (hb hby d57_9) rfl rfl (l' := #[oR ax, oi 1, oR ax, .unset, .unset, .unset, .unset, .unset]) rfl k) ?_
  refine own_go (st' := s₁.setTop (mkF m 11 #[oR ax, oi 1, oR ax, .unset, .unset, .unset, .unset, .unset] [(.ref ax)])) (fun _ k => XS.aloadN X0.here hx rfl (hb hby d57_10) rfl rfl k) ?_
  obtain ⟨cl1, Ar1, -, S1, M1, -, -⟩ := id pr1
  refine own_go (st' := s₁.setTop (mkF m 12 #[oR ax, oi 1, oR ax, .unset, .unset, .unset, .unset, .unset] [(.int (1 : Int32))])) (fun t k => X0.arraylength hx (by rw [e0]; exact Ar1.1) (State.isArrayOf_alike hZ.alike Ar1.2.1) (g := (mkF m 11 #[oR ax, oi 1, oR ax, .unset, .unset, .unset, .unset, .unset] [(.ref ax)])) rfl rfl (hb hby d57_11) t (by rw [len_of S1 M1]; exact k)) ?_
  refine own_go (st' := s₁.setTop (mkF m 13 #[oR ax, oi 1, oR ax, oi 1, .unset, .unset, .unset, .unset] [])) (fun _ k => XS.istoreN X0.here hx rfl (hb hby d57_12) rfl (l' := #[oR ax, oi 1, oR ax, oi 1, .unset, .unset, .unset, .unset]) rfl k) ?_
  refine own_go (st' := s₁.setTop (mkF m 14 #[oR ax, oi 1, oR ax, oi 1, .unset, .unset, .unset, .unset] [(.int (0 : Int32))])) (fun _ k => XS.iconst X0.here hx rfl (hb hby d57_13) k) ?_
  refine own_go (st' := s₁.setTop (mkF m 16 #[oR ax, oi 1, oR ax, oi 1, oi 0, .unset, .unset, .unset] [])) (fun _ k => XS.istore X0.here hx rfl (hb hby d57_14) rfl (l' := #[oR ax, oi 1, oR ax, oi 1, oi 0, .unset, .unset, .unset]) rfl k) ?_
  refine own_go (st' := s₁.setTop (mkF m 18 #[oR ax, oi 1, oR ax, oi 1, oi 0, .unset, .unset, .unset] [(.int (0 : Int32))])) (fun _ k => XS.iload X0.here hx rfl (hb hby d57_16) rfl k) ?_
  refine own_go (st' := s₁.setTop (mkF m 19 #[oR ax, oi 1, oR ax, oi 1, oi 0, .unset, .unset, .unset] [(.int (1 : Int32)), (.int (0 : Int32))])) (fun _ k => XS.iloadN X0.here hx rfl (hb hby d57_18) rfl k) ?_
  have hc2 : (0 : Int32) < (1 : Int32) := by decide
  refine own_go (st' := s₁.setTop (mkF m 22 #[oR ax, oi 1, oR ax, oi 1, oi 0, .unset, .unset, .unset] [])) (fun _ k => XS.icmpNo X0.here hx rfl (hb hby d57_19) rfl (tlt hc2).2.1 k) ?_
  refine own_go (st' := s₁.setTop (mkF m 23 #[oR ax, oi 1, oR ax, oi 1, oi 0, .unset, .unset, .unset] [(.ref ax)])) (fun _ k => XS.aloadN X0.here hx rfl (hb hby d57_22) rfl rfl k) ?_
  refine own_go (st' := s₁.setTop (mkF m 25 #[oR ax, oi 1, oR ax, oi 1, oi 0, .unset, .unset, .unset] [(.int (0 : Int32)), (.ref ax)])) (fun _ k => XS.iload X0.here hx rfl (hb hby d57_23) rfl k) ?_
  obtain ⟨cl3, Ar3, -, S3, M3, H3, -⟩ := id pr1
  have hin3 : ¬ ((0 : Int32) < 0 ∨ cl3.slots.size ≤ ((0 : Int32)).toNatClampNeg) := (inb_of S3 ⟨by decide, by decide⟩)
  have hat3 : cl3.slots[((0 : Int32)).toNatClampNeg]? = some (.long q1) := (H3.at hin3 rfl)
  refine own_go (st' := s₁.setTop (mkF m 26 #[oR ax, oi 1, oR ax, oi 1, oi 0, .unset, .unset, .unset] [(.long q1)])) (X0.laload hx (j := (0 : Int32)) (v := (.long q1)) (by rw [e0]; exact Ar3.1) (State.isArrayOf_alike hZ.alike Ar3.2.1) Ar3.2.2 hin3 hat3 (g := (mkF m 25 #[oR ax, oi 1, oR ax, oi 1, oi 0, .unset, .unset, .unset] [(.int (0 : Int32)), (.ref ax)])) rfl rfl (hb hby d57_25)) ?_
  refine own_go (st' := s₁.setTop (mkF m 28 #[oR ax, oi 1, oR ax, oi 1, oi 0, oj q1, .second, .unset] [])) (fun _ k => XS.lstore X0.here hx rfl (hb hby d57_26) rfl (l' := #[oR ax, oi 1, oR ax, oi 1, oi 0, oj q1, .second, .unset]) rfl k) ?_
  refine own_go (st' := s₁.setTop (mkF m 30 #[oR ax, oi 1, oR ax, oi 1, oi 0, oj q1, .second, .unset] [(.long q1)])) (fun _ k => XS.lload X0.here hx rfl (hb hby d57_28) rfl k) ?_
  refine own_go (st' := s₁.setTop (mkF m 32 #[oR ax, oi 1, oR ax, oi 1, oi 0, oj q1, .second, .unset] [(.long q1), (.long q1)])) (fun _ k => XS.lload X0.here hx rfl (hb hby d57_30) rfl k) ?_
  refine own_go (st' := s₁.setTop (mkF m 34 #[oR ax, oi 1, oR ax, oi 1, oi 0, oj q1, .second, .unset] [(.int (32 : Int32)), (.long q1), (.long q1)])) (fun _ k => XS.bipush X0.here hx rfl (hb hby d57_32) k) ?_
  refine own_go (st' := s₁.setTop (mkF m 35 #[oR ax, oi 1, oR ax, oi 1, oi 0, oj q1, .second, .unset] [(.long ((q1.toUInt64 >>> ((32 : Int32) &&& 0x3f).toInt64.toUInt64).toInt64)), (.long q1)])) (fun _ k => XS.lushr X0.here hx rfl (hb hby d57_34) rfl k) ?_
  refine own_go (st' := s₁.setTop (mkF m 36 #[oR ax, oi 1, oR ax, oi 1, oi 0, oj q1, .second, .unset] [(.long (q1 ^^^ ((q1.toUInt64 >>> ((32 : Int32) &&& 0x3f).toInt64.toUInt64).toInt64)))])) (fun _ k => XS.lxor X0.here hx rfl (hb hby d57_35) rfl k) ?_
  refine own_go (st' := s₁.setTop (mkF m 37 #[oR ax, oi 1, oR ax, oi 1, oi 0, oj q1, .second, .unset] [(.int (q1 ^^^ ((q1.toUInt64 >>> ((32 : Int32) &&& 0x3f).toInt64.toUInt64).toInt64)).toInt32)])) (fun _ k => XS.l2i X0.here hx rfl (hb hby d57_36) rfl k) ?_
  refine own_go (st' := s₁.setTop (mkF m 39 #[oR ax, oi 1, oR ax, oi 1, oi 0, oj q1, .second, .val (.int (q1 ^^^ ((q1.toUInt64 >>> ((32 : Int32) &&& 0x3f).toInt64.toUInt64).toInt64)).toInt32)] [])) (fun _ k => XS.istore X0.here hx rfl (hb hby d57_37) rfl (l' := #[oR ax, oi 1, oR ax, oi 1, oi 0, oj q1, .second, .val (.int (q1 ^^^ ((q1.toUInt64 >>> ((32 : Int32) &&& 0x3f).toInt64.toUInt64).toInt64)).toInt32)]) rfl k) ?_
  refine own_go (st' := s₁.setTop (mkF m 41 #[oR ax, oi 1, oR ax, oi 1, oi 0, oj q1, .second, .val (.int (q1 ^^^ ((q1.toUInt64 >>> ((32 : Int32) &&& 0x3f).toInt64.toUInt64).toInt64)).toInt32)] [(.int (31 : Int32))])) (fun _ k => XS.bipush X0.here hx rfl (hb hby d57_39) k) ?_
  refine own_go (st' := s₁.setTop (mkF m 42 #[oR ax, oi 1, oR ax, oi 1, oi 0, oj q1, .second, .val (.int (q1 ^^^ ((q1.toUInt64 >>> ((32 : Int32) &&& 0x3f).toInt64.toUInt64).toInt64)).toInt32)] [(.int (1 : Int32)), (.int (31 : Int32))])) (fun _ k => XS.iloadN X0.here hx rfl (hb hby d57_41) rfl k) ?_
  refine own_go (st' := s₁.setTop (mkF m 43 #[oR ax, oi 1, oR ax, oi 1, oi 0, oj q1, .second, .val (.int (q1 ^^^ ((q1.toUInt64 >>> ((32 : Int32) &&& 0x3f).toInt64.toUInt64).toInt64)).toInt32)] [(.int (31 : Int32))])) (fun _ k => XS.imul X0.here hx rfl (hb hby d57_42) rfl (by rw [show ((31 : Int32) * (1 : Int32)) = (31 : Int32) by decide]; exact k)) ?_
  refine own_go (st' := s₁.setTop (mkF m 45 #[oR ax, oi 1, oR ax, oi 1, oi 0, oj q1, .second, .val (.int (q1 ^^^ ((q1.toUInt64 >>> ((32 : Int32) &&& 0x3f).toInt64.toUInt64).toInt64)).toInt32)] [(.int (q1 ^^^ ((q1.toUInt64 >>> ((32 : Int32) &&& 0x3f).toInt64.toUInt64).toInt64)).toInt32), (.int (31 : Int32))])) (fun _ k => XS.iload X0.here hx rfl (hb hby d57_43) rfl k) ?_
  refine own_go (st' := s₁.setTop (mkF m 46 #[oR ax, oi 1, oR ax, oi 1, oi 0, oj q1, .second, .val (.int (q1 ^^^ ((q1.toUInt64 >>> ((32 : Int32) &&& 0x3f).toInt64.toUInt64).toInt64)).toInt32)] [(.int ((31 : Int32) + (q1 ^^^ ((q1.toUInt64 >>> ((32 : Int32) &&& 0x3f).toInt64.toUInt64).toInt64)).toInt32))])) (fun _ k => XS.iadd X0.here hx rfl (hb hby d57_45) rfl k) ?_
  refine own_go (st' := s₁.setTop (mkF m 47 #[oR ax, .val (.int ((31 : Int32) + (q1 ^^^ ((q1.toUInt64 >>> ((32 : Int32) &&& 0x3f).toInt64.toUInt64).toInt64)).toInt32)), oR ax, oi 1, oi 0, oj q1, .second, .val (.int (q1 ^^^ ((q1.toUInt64 >>> ((32 : Int32) &&& 0x3f).toInt64.toUInt64).toInt64)).toInt32)] [])) (fun _ k => XS.istoreN X0.here hx rfl (hb hby d57_46) rfl (l' := #[oR ax, .val (.int ((31 : Int32) + (q1 ^^^ ((q1.toUInt64 >>> ((32 : Int32) &&& 0x3f).toInt64.toUInt64).toInt64)).toInt32)), oR ax, oi 1, oi 0, oj q1, .second, .val (.int (q1 ^^^ ((q1.toUInt64 >>> ((32 : Int32) &&& 0x3f).toInt64.toUInt64).toInt64)).toInt32)]) rfl k) ?_
  refine own_go (st' := s₁.setTop (mkF m 50 #[oR ax, .val (.int ((31 : Int32) + (q1 ^^^ ((q1.toUInt64 >>> ((32 : Int32) &&& 0x3f).toInt64.toUInt64).toInt64)).toInt32)), oR ax, oi 1, oi 1, oj q1, .second, .val (.int (q1 ^^^ ((q1.toUInt64 >>> ((32 : Int32) &&& 0x3f).toInt64.toUInt64).toInt64)).toInt32)] [])) (fun _ k => XS.iinc X0.here hx rfl (hb hby d57_47) rfl (l' := #[oR ax, .val (.int ((31 : Int32) + (q1 ^^^ ((q1.toUInt64 >>> ((32 : Int32) &&& 0x3f).toInt64.toUInt64).toInt64)).toInt32)), oR ax, oi 1, oi 1, oj q1, .second, .val (.int (q1 ^^^ ((q1.toUInt64 >>> ((32 : Int32) &&& 0x3f).toInt64.toUInt64).toInt64)).toInt32)]) (by rw [show ((0 : Int32) + Int32.ofInt 1) = (1 : Int32) by decide]; rfl) k) ?_
  refine own_go (st' := s₁.setTop (mkF m 16 #[oR ax, .val (.int ((31 : Int32) + (q1 ^^^ ((q1.toUInt64 >>> ((32 : Int32) &&& 0x3f).toInt64.toUInt64).toInt64)).toInt32)), oR ax, oi 1, oi 1, oj q1, .second, .val (.int (q1 ^^^ ((q1.toUInt64 >>> ((32 : Int32) &&& 0x3f).toInt64.toUInt64).toInt64)).toInt32)] [])) (fun _ k => XS.goto X0.here hx rfl (pc0 := 50) (pc' := 16) rfl (hb hby d57_50) (by decide) (by decide) k) ?_
  refine own_go (st' := s₁.setTop (mkF m 18 #[oR ax, .val (.int ((31 : Int32) + (q1 ^^^ ((q1.toUInt64 >>> ((32 : Int32) &&& 0x3f).toInt64.toUInt64).toInt64)).toInt32)), oR ax, oi 1, oi 1, oj q1, .second, .val (.int (q1 ^^^ ((q1.toUInt64 >>> ((32 : Int32) &&& 0x3f).toInt64.toUInt64).toInt64)).toInt32)] [(.int (1 : Int32))])) (fun _ k => XS.iload X0.here hx rfl (hb hby d57_16) rfl k) ?_
  refine own_go (st' := s₁.setTop (mkF m 19 #[oR ax, .val (.int ((31 : Int32) + (q1 ^^^ ((q1.toUInt64 >>> ((32 : Int32) &&& 0x3f).toInt64.toUInt64).toInt64)).toInt32)), oR ax, oi 1, oi 1, oj q1, .second, .val (.int (q1 ^^^ ((q1.toUInt64 >>> ((32 : Int32) &&& 0x3f).toInt64.toUInt64).toInt64)).toInt32)] [(.int (1 : Int32)), (.int (1 : Int32))])) (fun _ k => XS.iloadN X0.here hx rfl (hb hby d57_18) rfl k) ?_
  have hc4 : ¬ ((1 : Int32) < (1 : Int32)) := by decide
  refine own_go (st' := s₁.setTop (mkF m 53 #[oR ax, .val (.int ((31 : Int32) + (q1 ^^^ ((q1.toUInt64 >>> ((32 : Int32) &&& 0x3f).toInt64.toUInt64).toInt64)).toInt32)), oR ax, oi 1, oi 1, oj q1, .second, .val (.int (q1 ^^^ ((q1.toUInt64 >>> ((32 : Int32) &&& 0x3f).toInt64.toUInt64).toInt64)).toInt32)] [])) (fun _ k => XS.icmpYes X0.here hx rfl (pc0 := 19) (pc' := 53) rfl (hb hby d57_19) rfl (flt hc4).2.1 (by decide) (by decide) k) ?_
  refine own_go (st' := s₁.setTop (mkF m 54 #[oR ax, .val (.int ((31 : Int32) + (q1 ^^^ ((q1.toUInt64 >>> ((32 : Int32) &&& 0x3f).toInt64.toUInt64).toInt64)).toInt32)), oR ax, oi 1, oi 1, oj q1, .second, .val (.int (q1 ^^^ ((q1.toUInt64 >>> ((32 : Int32) &&& 0x3f).toInt64.toUInt64).toInt64)).toInt32)] [(.int ((31 : Int32) + (q1 ^^^ ((q1.toUInt64 >>> ((32 : Int32) &&& 0x3f).toInt64.toUInt64).toInt64)).toInt32))])) (fun _ k => XS.iloadN X0.here hx rfl (hb hby d57_53) rfl k) ?_
  obtain ⟨fs, hr, hrun, hended, hW, hsame⟩ := X0.leave (v := some (.int ((31 : Int32) + (q1 ^^^ ((q1.toUInt64 >>> ((32 : Int32) &&& 0x3f).toInt64.toUInt64).toInt64)).toInt32))) (fun h => by rw [Bd.returns] at h; cases h)
  refine ⟨_, _, ?_, hP _ _ hrun hended ⟨_, _, rfl, ?_, ⟨_, rfl⟩, hW, hsame.mono (by decide) (by decide)⟩⟩
  · exact retOut X0 hx Bd.returns rfl (Or.inl ⟨rfl, Or.inl rfl, _, rfl⟩) (hb hby d57_54) hr
  · show Qrm57 Z ax kx q1 h0 n0 _ s₁.heap _
    rw [e0]
    exact ⟨((31 : Int32) + (q1 ^^^ ((q1.toUInt64 >>> ((32 : Int32) &&& 0x3f).toInt64.toUInt64).toInt64)).toInt32), rfl, N0, rfl⟩
theorem pd_33 : parseMethodDescriptor "([J)I" = some ⟨[(.array .long)], some .int⟩ := by decide +kernel
theorem d56_0 : decode prog_23_method_1_code 0 = .ok (.aload_n 0, 1) := by decide +kernel
theorem d56_1 : decode prog_23_method_1_code 1 = .ok (.invokespecial 1, 3) := by decide +kernel
theorem d56_4 : decode prog_23_method_1_code 4 = .ok (.aload_n 0, 1) := by decide +kernel
theorem d56_5 : decode prog_23_method_1_code 5 = .ok (.iload_n 1, 1) := by decide +kernel
theorem d56_6 : decode prog_23_method_1_code 6 = .ok (.putfield 7, 3) := by decide +kernel
theorem d56_9 : decode prog_23_method_1_code 9 = .ok (.aload_n 0, 1) := by decide +kernel
theorem d56_10 : decode prog_23_method_1_code 10 = .ok (.aload_n 2, 1) := by decide +kernel
theorem d56_11 : decode prog_23_method_1_code 11 = .ok (.putfield 13, 3) := by decide +kernel
theorem d56_14 : decode prog_23_method_1_code 14 = .ok (.aload_n 0, 1) := by decide +kernel
theorem d56_15 : decode prog_23_method_1_code 15 = .ok (.bipush 31, 2) := by decide +kernel
theorem d56_17 : decode prog_23_method_1_code 17 = .ok (.iload_n 1, 1) := by decide +kernel
theorem d56_18 : decode prog_23_method_1_code 18 = .ok (.imul, 1) := by decide +kernel
theorem d56_19 : decode prog_23_method_1_code 19 = .ok (.aload_n 2, 1) := by decide +kernel
theorem d56_20 : decode prog_23_method_1_code 20 = .ok (.invokestatic 17, 3) := by decide +kernel
theorem d56_23 : decode prog_23_method_1_code 23 = .ok (.iadd, 1) := by decide +kernel
theorem d56_24 : decode prog_23_method_1_code 24 = .ok (.putfield 23, 3) := by decide +kernel
theorem d56_27 : decode prog_23_method_1_code 27 = .ok (.return_, 1) := by decide +kernel
theorem pn_56 : plainName "com/example/millwright/millwright/cut/Pattern" = true := by first | (simp [plainName, overriddenIn]; done) | decide +kernel
theorem ef_rm56 (m : MethodId) (x0 : Addr) (x1 : Int32) (x2 : Addr) : entryFrame m #[(.ref x0), (.int x1), (.ref x2)] 3 = mkF m 0 #[.val (.ref x0), .val (.int x1), .val (.ref x2)] [] := by first | (simp [entryFrame, mkF, argsToLocals, Value.category]; done) | rfl
def Qrm56 (Z : State) (a1 : Addr) (ax : Addr) (kx : ClassId) (zs : Int32) (zh : Int32) (q1 : Int64) (h0 : Heap) (n0 : Nat) (v : Option Value) (h : Heap) (L : List Loc) : Prop := (v = none) ∧ (Fr n0 L) ∧ (Keep h0 h [a1]) ∧ (Exa Z h a1 "com/example/millwright/millwright/cut/Pattern") ∧ (Fld Z h a1 "com/example/millwright/millwright/cut/Pattern" "stock" "I" (.int (0 : Int32))) ∧ (Fld Z h a1 "com/example/millwright/millwright/cut/Pattern" "counts" "[J" (.ref ax))
set_option maxRecDepth 65536 in
set_option maxHeartbeats 40000000 in
theorem rm56 (l : Launch) (Z : State) (a0 : Array Value) (hw : ∀ d ∈ tables_1, d.before a0 Z = true) (ws : List Jvm.Cond) (a1 : Addr) (ax : Addr) (kx : ClassId) (zs : Int32) (zh : Int32) (q1 : Int64) (h0 : Heap) (n0 : Nat) (Z0 : n0 ≤ h0.size) (pr1 : Exa Z h0 a1 oS7) (pr2 : Fld Z h0 a1 oS7 "stock" "I" (.int zs)) (pr3 : Fld Z h0 a1 oS7 "counts" "[J" .null) (pr4 : Fld Z h0 a1 oS7 "hash" "I" (.int zh)) (pr5 : Arv Z h0 ax kx .long (1 : Int32) [(.long q1)] (.long (0 : Int64))) (pr6 : n0 ≤ a1) (pr7 : own_D a1 ax) :
    MetFree l oM43 (head1 (Jvm.Cond.code oM43 prog_23_method_1_code 3 none :: ws) ({ frames := 1, cells := 0, slots := 0, locals := 21 } : Room)) (fun a U => a = #[(.ref a1), (.int (0 : Int32)), (.ref ax)] ∧ Z.Warmed39 U.vm ∧ U.heap = h0) (fun _ _ _ _ _ => True) (fun _ U o U' => ∃ v L, o = .returned v ∧ Qrm56 Z a1 ax kx zs zh q1 h0 n0 v U'.heap L ∧ FrameEnd U o U' L ({ frames := 1, cells := 0, slots := 0, locals := 21 } : Room).cells ({ frames := 1, cells := 0, slots := 0, locals := 21 } : Room).slots) := by
  refine MetFree.of_bodySF (plainFor_of_name pn_56) hisR ?_
  intro p e s m args below meth c s₁ Bd hml0 hP0 hK
  obtain ⟨rfl, hZ, hh⟩ := hP0
  have hx := Bd.exec
  have hby := Bd.bytes
  have hml : c.maxLocals = 3 := hml0
  have hown : s.vm.findClass oS7 = some m.cls := findClass_of_methodNamed Bd.named
  have hnm := (name_of_methodNamed Bd.named Bd.method).1
  have X0 : Stand p l e ({ frames := 1, cells := 0, slots := 0, locals := 21 } : Room) s m #[(.ref a1), (.int (0 : Int32)), (.ref ax)] below meth c s₁ [] 0 0 := Stand.of_body Bd
  have e0 : s₁.heap = h0 := by rw [← hh, Bd.state]; rfl
  have N0 := Fr.nil n0
  refine own_fin (st' := s₁.setTop (mkF m 0 #[oR a1, oi 0, oR ax] [])) (fun _ k => castTop (ef_rm56 m a1 (0 : Int32) ax) k) (fun P hP => ?_)
  have lt_a1 : @LT.lt Nat _ a1 h0.size := pr1.lt
  have lt_ax : @LT.lt Nat _ ax h0.size := pr5.lt
  refine own_go (st' := s₁.setTop (mkF m 1 #[oR a1, oi 0, oR ax] [(.ref a1)])) (fun _ k => XS.aloadN X0.here hx rfl (hb hby d56_0) rfl rfl k) ?_
  obtain ⟨T1, X1, e1, st1⟩ := initO X0 hx hZ hown (own_hw hw 437) (own_hw hw 13) (own_hw hw 14) e0 (g := (mkF m 1 #[oR a1, oi 0, oR ax] [(.ref a1)])) rfl (by rw [hml]; rfl) rfl (hb hby d56_1) (by decide) (W := 0) (by show 2 * 0 + _ ≤ _; exact Nat.le_of_eq rfl) (by decide)
  refine own_go (st' := T1.setTop (mkF m 4 #[oR a1, oi 0, oR ax] [])) (st1) ?_
  refine own_go (st' := T1.setTop (mkF m 5 #[oR a1, oi 0, oR ax] [(.ref a1)])) (fun _ k => XS.aloadN X1.here hx rfl (hb hby d56_4) rfl rfl k) ?_
  refine own_go (st' := T1.setTop (mkF m 6 #[oR a1, oi 0, oR ax] [(.int (0 : Int32)), (.ref a1)])) (fun _ k => XS.iloadN X1.here hx rfl (hb hby d56_5) rfl k) ?_
  obtain ⟨T2, h2, X2, e2, W2, st2⟩ := putF X1 hx hZ hown (host := "") (Or.inl (own_hw hw 438)) Via.refl e1 pr2 pr1 (Or.inr ⟨(own_hw hw 439), rfl, hnm⟩) (own_hw hw 432) (ty := .int) (by decide) rfl rfl (g := (mkF m 6 #[oR a1, oi 0, oR ax] [(.int (0 : Int32)), (.ref a1)])) rfl rfl (hb hby d56_6)
  have sz2 : h2.size = h0.size := W2.size
  have N2 := Fr.snoc X2 N0 (by omega)
  have f2 : Fld Z h2 a1 oS7 "stock" "I" (.int (0 : Int32)) := pr2.same W2
  refine own_go (st' := T2.setTop (mkF m 9 #[oR a1, oi 0, oR ax] [])) (st2) ?_
  refine own_go (st' := T2.setTop (mkF m 10 #[oR a1, oi 0, oR ax] [(.ref a1)])) (fun _ k => XS.aloadN X2.here hx rfl (hb hby d56_9) rfl rfl k) ?_
  refine own_go (st' := T2.setTop (mkF m 11 #[oR a1, oi 0, oR ax] [(.ref ax), (.ref a1)])) (fun _ k => XS.aloadN X2.here hx rfl (hb hby d56_10) rfl rfl k) ?_
  have c3 : Fld Z h2 a1 oS7 "counts" "[J" .null := (pr3.other W2 (Or.inr (slot_ne (Or.inr (own_hw hw 441)) (Or.inr (own_hw hw 439)) (by decide) (t := (.array .long)) (t' := .int) (by decide) (by decide))))
  have c4 : Exa Z h2 a1 oS7 := (pr1.wr W2)
  obtain ⟨T5, h5, X5, e5, W5, st5⟩ := putF X2 hx hZ hown (host := "") (Or.inl (own_hw hw 440)) Via.refl e2 c3 c4 (Or.inr ⟨(own_hw hw 441), rfl, hnm⟩) (own_hw hw 432) (ty := (.array .long)) (by decide) rfl rfl (g := (mkF m 11 #[oR a1, oi 0, oR ax] [(.ref ax), (.ref a1)])) rfl rfl (hb hby d56_11)
  have sz5 : h5.size = h2.size := W5.size
  have N5 := Fr.snoc X5 N2 (by omega)
  have f5 : Fld Z h5 a1 oS7 "counts" "[J" (.ref ax) := c3.same W5
  refine own_go (st' := T5.setTop (mkF m 14 #[oR a1, oi 0, oR ax] [])) (st5) ?_
  refine own_go (st' := T5.setTop (mkF m 15 #[oR a1, oi 0, oR ax] [(.ref a1)])) (fun _ k => XS.aloadN X5.here hx rfl (hb hby d56_14) rfl rfl k) ?_
  refine own_go (st' := T5.setTop (mkF m 17 #[oR a1, oi 0, oR ax] [(.int (31 : Int32)), (.ref a1)])) (fun _ k => XS.bipush X5.here hx rfl (hb hby d56_15) k) ?_
  refine own_go (st' := T5.setTop (mkF m 18 #[oR a1, oi 0, oR ax] [(.int (0 : Int32)), (.int (31 : Int32)), (.ref a1)])) (fun _ k => XS.iloadN X5.here hx rfl (hb hby d56_17) rfl k) ?_
  refine own_go (st' := T5.setTop (mkF m 19 #[oR a1, oi 0, oR ax] [(.int (0 : Int32)), (.ref a1)])) (fun _ k => XS.imul X5.here hx rfl (hb hby d56_18) rfl (by rw [show ((31 : Int32) * (0 : Int32)) = (0 : Int32) by decide]; exact k)) ?_
  refine own_go (st' := T5.setTop (mkF m 20 #[oR a1, oi 0, oR ax] [(.ref ax), (.int (0 : Int32)), (.ref a1)])) (fun _ k => XS.aloadN X5.here hx rfl (hb hby d56_19) rfl rfl k) ?_
  have c7 : Arv Z h5 ax kx .long (1 : Int32) [(.long q1)] (.long (0 : Int64)) := ((pr5.other W2 own_nq).other W5 own_nq)
  obtain ⟨_, _, ⟨T6, LC6, kC6, nC6⟩, -, X6, ⟨Lc6, hQ6, lq6, yq6, zq6⟩, st6⟩ := Jvm.LawKit.callS X5 hx (y := oM65) hown (mvT hZ (own_hw hw 442)) (mvT hZ (own_hw hw 443)) (mvT hZ (own_hw hw 444)) (mvT hZ (own_hw hw 445)) (by decide) (backOf (W := 2) (rm57 l Z a0 hw [] ax kx q1 h5 n0 (by omega) c7) hZ (own_hw hw 445) (own_hw hw 444) (by decide) (by decide)) (g := (mkF m 20 #[oR a1, oi 0, oR ax] [(.ref ax), (.int (0 : Int32)), (.ref a1)])) rfl (by rw [hml]; rfl) (argsL := [(.ref ax)]) (rest := [(.int (0 : Int32)), (.ref a1)]) (lenOf pd_33 rfl) rfl (by show 2 * 0 + _ ≤ _; exact Nat.le_of_eq rfl) (hb hby d56_20) (fun _ _ => ⟨rfl, e5, (by decide : 0 + 0 ≤ _), (by decide : 0 + 0 ≤ _)⟩)
  dsimp only [Pt.U, Pt.locs, Pt.cells, Pt.slots] at X6 lq6 yq6 zq6 st6 hQ6
  subst lq6 yq6 zq6
  obtain ⟨r_6, rfl, Nq6, eq6⟩ := hQ6
  have N6 := Fr.app N5 Nq6
  refine own_go (st' := T6.setTop (mkF m 23 #[oR a1, oi 0, oR ax] [(.int r_6), (.int (0 : Int32)), (.ref a1)])) (fun t k => st6 t k) ?_
  refine own_go (st' := T6.setTop (mkF m 24 #[oR a1, oi 0, oR ax] [(.int ((0 : Int32) + r_6)), (.ref a1)])) (fun _ k => XS.iadd X6.here hx rfl (hb hby d56_23) rfl k) ?_
  have c8 : Fld Z h5 a1 oS7 "hash" "I" (.int zh) := ((pr4.other W2 (Or.inr (slot_ne (Or.inr (own_hw hw 447)) (Or.inr (own_hw hw 439)) (by decide) (t := .int) (t' := .int) (by decide) (by decide)))).other W5 (Or.inr (slot_ne (Or.inr (own_hw hw 447)) (Or.inr (own_hw hw 441)) (by decide) (t := .int) (t' := (.array .long)) (by decide) (by decide))))
  have c9 : Exa Z h5 a1 oS7 := (c4.wr W5)
  obtain ⟨T10, h10, X10, e10, W10, st10⟩ := putF X6 hx hZ hown (host := "") (Or.inl (own_hw hw 446)) Via.refl eq6 c8 c9 (Or.inr ⟨(own_hw hw 447), rfl, hnm⟩) (own_hw hw 432) (ty := .int) (by decide) rfl rfl (g := (mkF m 24 #[oR a1, oi 0, oR ax] [(.int ((0 : Int32) + r_6)), (.ref a1)])) rfl rfl (hb hby d56_24)
  have sz10 : h10.size = h5.size := W10.size
  have N10 := Fr.snoc X10 N6 (by omega)
  have f10 : Fld Z h10 a1 oS7 "hash" "I" (.int ((0 : Int32) + r_6)) := c8.same W10
  refine own_go (st' := T10.setTop (mkF m 27 #[oR a1, oi 0, oR ax] [])) (st10) ?_
  obtain ⟨fs, hr, hrun, hended, hW, hsame⟩ := X10.leave (v := none) (fun _ => rfl)
  refine ⟨_, _, ?_, hP _ _ hrun hended ⟨_, _, rfl, ?_, ⟨_, rfl⟩, hW, hsame.mono (by decide) (by decide)⟩⟩
  · exact X10.returnOut hx Bd.returns (hb hby d56_27) hr
  · show Qrm56 Z a1 ax kx zs zh q1 h0 n0 _ T10.heap _
    have c12 : Exa Z h10 a1 oS7 := (c9.wr W10)
    have c13 : Fld Z h10 a1 oS7 "stock" "I" (.int (0 : Int32)) := ((f2.other W5 (Or.inr (slot_ne (Or.inr (own_hw hw 439)) (Or.inr (own_hw hw 441)) (by decide) (t := .int) (t' := (.array .long)) (by decide) (by decide)))).other W10 (Or.inr (slot_ne (Or.inr (own_hw hw 439)) (Or.inr (own_hw hw 447)) (by decide) (t := .int) (t' := .int) (by decide) (by decide))))
    have c14 : Fld Z h10 a1 oS7 "counts" "[J" (.ref ax) := (f5.other W10 (Or.inr (slot_ne (Or.inr (own_hw hw 441)) (Or.inr (own_hw hw 447)) (by decide) (t := (.array .long)) (t' := .int) (by decide) (by decide))))
    rw [e10]
    exact ⟨rfl, N10, ((((Keep.refl h0 [a1]).wr W2 (Or.inl (List.mem_of_getElem? (i := 0) rfl))).wr W5 (Or.inl (List.mem_of_getElem? (i := 0) rfl))).wr W10 (Or.inl (List.mem_of_getElem? (i := 0) rfl))), c12, c13, c14⟩
theorem d61_0 : decode prog_19_method_3_code 0 = .ok (.aload_n 0, 1) := by decide +kernel
theorem d61_1 : decode prog_19_method_3_code 1 = .ok (.getfield 7, 3) := by decide +kernel
theorem d61_4 : decode prog_19_method_3_code 4 = .ok (.iload_n 1, 1) := by decide +kernel
theorem d61_5 : decode prog_19_method_3_code 5 = .ok (.laload, 1) := by decide +kernel
theorem d61_6 : decode prog_19_method_3_code 6 = .ok (.lreturn, 1) := by decide +kernel
theorem pn_61 : plainName "com/example/millwright/millwright/cut/Order" = true := by first | (simp [plainName, overriddenIn]; done) | decide +kernel
theorem ef_rm61 (m : MethodId) (x0 : Addr) (x1 : Int32) : entryFrame m #[(.ref x0), (.int x1)] 2 = mkF m 0 #[.val (.ref x0), .val (.int x1)] [] := by first | (simp [entryFrame, mkF, argsToLocals, Value.category]; done) | rfl
def Qrm61 (Z : State) (ao : Addr) (s1 : Addr) (k1_ : ClassId) (q1 : Int64) (h0 : Heap) (n0 : Nat) (v : Option Value) (h : Heap) (L : List Loc) : Prop := (v = some (.long q1)) ∧ (Fr n0 L) ∧ (h = h0)
set_option maxRecDepth 65536 in
set_option maxHeartbeats 40000000 in
theorem rm61 (l : Launch) (Z : State) (a0 : Array Value) (hw : ∀ d ∈ tables_1, d.before a0 Z = true) (ws : List Jvm.Cond) (ao : Addr) (s1 : Addr) (k1_ : ClassId) (q1 : Int64) (h0 : Heap) (n0 : Nat) (Z0 : n0 ≤ h0.size) (pr1 : Fld Z h0 ao oS9 "stockLength" "[J" (.ref s1)) (pr2 : Arv Z h0 s1 k1_ .long (1 : Int32) [(.long q1)] (.long (0 : Int64))) :
    MetFree l oM44 (head1 (Jvm.Cond.code oM44 prog_19_method_3_code 2 (some .long) :: ws) ({ frames := 0, cells := 0, slots := 0, locals := 0 } : Room)) (fun a U => a = #[(.ref ao), (.int (0 : Int32))] ∧ Z.Warmed39 U.vm ∧ U.heap = h0) (fun _ _ _ _ _ => True) (fun _ U o U' => ∃ v L, o = .returned v ∧ Qrm61 Z ao s1 k1_ q1 h0 n0 v U'.heap L ∧ FrameEnd U o U' L ({ frames := 0, cells := 0, slots := 0, locals := 0 } : Room).cells ({ frames := 0, cells := 0, slots := 0, locals := 0 } : Room).slots) := by
  refine MetFree.of_bodySF (plainFor_of_name pn_61) hisR ?_
  intro p e s m args below meth c s₁ Bd hml0 hP0 hK
  obtain ⟨rfl, hZ, hh⟩ := hP0
  have hx := Bd.exec
  have hby := Bd.bytes
  have hml : c.maxLocals = 2 := hml0
  have hown : s.vm.findClass oS9 = some m.cls := findClass_of_methodNamed Bd.named
  have hnm := (name_of_methodNamed Bd.named Bd.method).1
  have X0 : Stand p l e ({ frames := 0, cells := 0, slots := 0, locals := 0 } : Room) s m #[(.ref ao), (.int (0 : Int32))] below meth c s₁ [] 0 0 := Stand.of_body Bd
  have e0 : s₁.heap = h0 := by rw [← hh, Bd.state]; rfl
  have N0 := Fr.nil n0
  refine own_fin (st' := s₁.setTop (mkF m 0 #[oR ao, oi 0] [])) (fun _ k => castTop (ef_rm61 m ao (0 : Int32)) k) (fun P hP => ?_)
  have lt_ao : @LT.lt Nat _ ao h0.size := pr1.lt
  have lt_s1 : @LT.lt Nat _ s1 h0.size := pr2.lt
  refine own_go (st' := s₁.setTop (mkF m 1 #[oR ao, oi 0] [(.ref ao)])) (fun _ k => XS.aloadN X0.here hx rfl (hb hby d61_0) rfl rfl k) ?_
  obtain ⟨T1, X1, e1, st1⟩ := getF X0 hx hZ hown (host := "") (Or.inl (own_hw hw 423)) Via.refl e0 pr1 (g := (mkF m 1 #[oR ao, oi 0] [(.ref ao)])) rfl rfl (hb hby d61_1)
  refine own_go (st' := T1.setTop (mkF m 4 #[oR ao, oi 0] [(.ref s1)])) (st1) ?_
  refine own_go (st' := T1.setTop (mkF m 5 #[oR ao, oi 0] [(.int (0 : Int32)), (.ref s1)])) (fun _ k => XS.iloadN X1.here hx rfl (hb hby d61_4) rfl k) ?_
  obtain ⟨cl2, Ar2, -, S2, M2, H2, -⟩ := id pr2
  have hin2 : ¬ ((0 : Int32) < 0 ∨ cl2.slots.size ≤ ((0 : Int32)).toNatClampNeg) := (inb_of S2 ⟨by decide, by decide⟩)
  have hat2 : cl2.slots[((0 : Int32)).toNatClampNeg]? = some (.long q1) := (H2.at hin2 rfl)
  refine own_go (st' := T1.setTop (mkF m 6 #[oR ao, oi 0] [(.long q1)])) (X1.laload hx (j := (0 : Int32)) (v := (.long q1)) (by rw [e1]; exact Ar2.1) (State.isArrayOf_alike hZ.alike Ar2.2.1) Ar2.2.2 hin2 hat2 (g := (mkF m 5 #[oR ao, oi 0] [(.int (0 : Int32)), (.ref s1)])) rfl rfl (hb hby d61_5)) ?_
  obtain ⟨fs, hr, hrun, hended, hW, hsame⟩ := X1.leave (v := some (.long q1)) (fun h => by rw [Bd.returns] at h; cases h)
  refine ⟨_, _, ?_, hP _ _ hrun hended ⟨_, _, rfl, ?_, ⟨_, rfl⟩, hW, hsame.mono (by decide) (by decide)⟩⟩
  · exact retOut X1 hx Bd.returns rfl (Or.inr (Or.inl ⟨rfl, rfl, _, rfl⟩)) (hb hby d61_6) hr
  · show Qrm61 Z ao s1 k1_ q1 h0 n0 _ T1.heap _
    rw [e1]
    exact ⟨rfl, N0, rfl⟩
theorem d63_0 : decode prog_19_method_9_code 0 = .ok (.aload_n 0, 1) := by decide +kernel
theorem d63_1 : decode prog_19_method_9_code 1 = .ok (.getfield 16, 3) := by decide +kernel
theorem d63_4 : decode prog_19_method_9_code 4 = .ok (.iload_n 1, 1) := by decide +kernel
theorem d63_5 : decode prog_19_method_9_code 5 = .ok (.laload, 1) := by decide +kernel
theorem d63_6 : decode prog_19_method_9_code 6 = .ok (.lreturn, 1) := by decide +kernel
theorem pn_63 : plainName "com/example/millwright/millwright/cut/Order" = true := by first | (simp [plainName, overriddenIn]; done) | decide +kernel
theorem ef_rm63 (m : MethodId) (x0 : Addr) (x1 : Int32) : entryFrame m #[(.ref x0), (.int x1)] 2 = mkF m 0 #[.val (.ref x0), .val (.int x1)] [] := by first | (simp [entryFrame, mkF, argsToLocals, Value.category]; done) | rfl
def Qrm63 (Z : State) (ao : Addr) (s1 : Addr) (k1_ : ClassId) (q1 : Int64) (h0 : Heap) (n0 : Nat) (v : Option Value) (h : Heap) (L : List Loc) : Prop := (v = some (.long q1)) ∧ (Fr n0 L) ∧ (h = h0)
set_option maxRecDepth 65536 in
set_option maxHeartbeats 40000000 in
theorem rm63 (l : Launch) (Z : State) (a0 : Array Value) (hw : ∀ d ∈ tables_1, d.before a0 Z = true) (ws : List Jvm.Cond) (ao : Addr) (s1 : Addr) (k1_ : ClassId) (q1 : Int64) (h0 : Heap) (n0 : Nat) (Z0 : n0 ≤ h0.size) (pr1 : Fld Z h0 ao oS9 "length" "[J" (.ref s1)) (pr2 : Arv Z h0 s1 k1_ .long (1 : Int32) [(.long q1)] (.long (0 : Int64))) :
    MetFree l oM45 (head1 (Jvm.Cond.code oM45 prog_19_method_9_code 2 (some .long) :: ws) ({ frames := 0, cells := 0, slots := 0, locals := 0 } : Room)) (fun a U => a = #[(.ref ao), (.int (0 : Int32))] ∧ Z.Warmed39 U.vm ∧ U.heap = h0) (fun _ _ _ _ _ => True) (fun _ U o U' => ∃ v L, o = .returned v ∧ Qrm63 Z ao s1 k1_ q1 h0 n0 v U'.heap L ∧ FrameEnd U o U' L ({ frames := 0, cells := 0, slots := 0, locals := 0 } : Room).cells ({ frames := 0, cells := 0, slots := 0, locals := 0 } : Room).slots) := by
  refine MetFree.of_bodySF (plainFor_of_name pn_63) hisR ?_
  intro p e s m args below meth c s₁ Bd hml0 hP0 hK
  obtain ⟨rfl, hZ, hh⟩ := hP0
  have hx := Bd.exec
  have hby := Bd.bytes
  have hml : c.maxLocals = 2 := hml0
  have hown : s.vm.findClass oS9 = some m.cls := findClass_of_methodNamed Bd.named
  have hnm := (name_of_methodNamed Bd.named Bd.method).1
  have X0 : Stand p l e ({ frames := 0, cells := 0, slots := 0, locals := 0 } : Room) s m #[(.ref ao), (.int (0 : Int32))] below meth c s₁ [] 0 0 := Stand.of_body Bd
  have e0 : s₁.heap = h0 := by rw [← hh, Bd.state]; rfl
  have N0 := Fr.nil n0
  refine own_fin (st' := s₁.setTop (mkF m 0 #[oR ao, oi 0] [])) (fun _ k => castTop (ef_rm63 m ao (0 : Int32)) k) (fun P hP => ?_)
  have lt_ao : @LT.lt Nat _ ao h0.size := pr1.lt
  have lt_s1 : @LT.lt Nat _ s1 h0.size := pr2.lt
  refine own_go (st' := s₁.setTop (mkF m 1 #[oR ao, oi 0] [(.ref ao)])) (fun _ k => XS.aloadN X0.here hx rfl (hb hby d63_0) rfl rfl k) ?_
  obtain ⟨T1, X1, e1, st1⟩ := getF X0 hx hZ hown (host := "") (Or.inl (own_hw hw 427)) Via.refl e0 pr1 (g := (mkF m 1 #[oR ao, oi 0] [(.ref ao)])) rfl rfl (hb hby d63_1)
  refine own_go (st' := T1.setTop (mkF m 4 #[oR ao, oi 0] [(.ref s1)])) (st1) ?_
  refine own_go (st' := T1.setTop (mkF m 5 #[oR ao, oi 0] [(.int (0 : Int32)), (.ref s1)])) (fun _ k => XS.iloadN X1.here hx rfl (hb hby d63_4) rfl k) ?_
  obtain ⟨cl2, Ar2, -, S2, M2, H2, -⟩ := id pr2
  have hin2 : ¬ ((0 : Int32) < 0 ∨ cl2.slots.size ≤ ((0 : Int32)).toNatClampNeg) := (inb_of S2 ⟨by decide, by decide⟩)
  have hat2 : cl2.slots[((0 : Int32)).toNatClampNeg]? = some (.long q1) := (H2.at hin2 rfl)
  refine own_go (st' := T1.setTop (mkF m 6 #[oR ao, oi 0] [(.long q1)])) (X1.laload hx (j := (0 : Int32)) (v := (.long q1)) (by rw [e1]; exact Ar2.1) (State.isArrayOf_alike hZ.alike Ar2.2.1) Ar2.2.2 hin2 hat2 (g := (mkF m 5 #[oR ao, oi 0] [(.int (0 : Int32)), (.ref s1)])) rfl rfl (hb hby d63_5)) ?_
  obtain ⟨fs, hr, hrun, hended, hW, hsame⟩ := X1.leave (v := some (.long q1)) (fun h => by rw [Bd.returns] at h; cases h)
  refine ⟨_, _, ?_, hP _ _ hrun hended ⟨_, _, rfl, ?_, ⟨_, rfl⟩, hW, hsame.mono (by decide) (by decide)⟩⟩
  · exact retOut X1 hx Bd.returns rfl (Or.inr (Or.inl ⟨rfl, rfl, _, rfl⟩)) (hb hby d63_6) hr
  · show Qrm63 Z ao s1 k1_ q1 h0 n0 _ T1.heap _
    rw [e1]
    exact ⟨rfl, N0, rfl⟩
theorem pd_34 : parseMethodDescriptor "(I)J" = some ⟨[.int], some .long⟩ := by decide +kernel
theorem d62_0 : decode prog_23_method_5_code 0 = .ok (.lconst 0, 1) := by decide +kernel
theorem d62_1 : decode prog_23_method_5_code 1 = .ok (.lstore_n 2, 1) := by decide +kernel
theorem d62_2 : decode prog_23_method_5_code 2 = .ok (.iconst 0, 1) := by decide +kernel
theorem d62_3 : decode prog_23_method_5_code 3 = .ok (.istore 4, 2) := by decide +kernel
theorem d62_5 : decode prog_23_method_5_code 5 = .ok (.iload 4, 2) := by decide +kernel
theorem d62_7 : decode prog_23_method_5_code 7 = .ok (.aload_n 0, 1) := by decide +kernel
theorem d62_8 : decode prog_23_method_5_code 8 = .ok (.getfield 13, 3) := by decide +kernel
theorem d62_11 : decode prog_23_method_5_code 11 = .ok (.arraylength, 1) := by decide +kernel
theorem d62_12 : decode prog_23_method_5_code 12 = .ok (.if_icmp .ge 30, 3) := by decide +kernel
theorem d62_15 : decode prog_23_method_5_code 15 = .ok (.lload_n 2, 1) := by decide +kernel
theorem d62_16 : decode prog_23_method_5_code 16 = .ok (.aload_n 0, 1) := by decide +kernel
theorem d62_17 : decode prog_23_method_5_code 17 = .ok (.getfield 13, 3) := by decide +kernel
theorem d62_20 : decode prog_23_method_5_code 20 = .ok (.iload 4, 2) := by decide +kernel
theorem d62_22 : decode prog_23_method_5_code 22 = .ok (.laload, 1) := by decide +kernel
theorem d62_23 : decode prog_23_method_5_code 23 = .ok (.aload_n 1, 1) := by decide +kernel
theorem d62_24 : decode prog_23_method_5_code 24 = .ok (.iload 4, 2) := by decide +kernel
theorem d62_26 : decode prog_23_method_5_code 26 = .ok (.invokevirtual 26, 3) := by decide +kernel
theorem d62_29 : decode prog_23_method_5_code 29 = .ok (.invokestatic 32, 3) := by decide +kernel
theorem d62_32 : decode prog_23_method_5_code 32 = .ok (.invokestatic 38, 3) := by decide +kernel
theorem d62_35 : decode prog_23_method_5_code 35 = .ok (.lstore_n 2, 1) := by decide +kernel
theorem d62_36 : decode prog_23_method_5_code 36 = .ok (.iinc 4 1, 3) := by decide +kernel
theorem d62_39 : decode prog_23_method_5_code 39 = .ok (.goto (-34), 3) := by decide +kernel
theorem d62_42 : decode prog_23_method_5_code 42 = .ok (.lload_n 2, 1) := by decide +kernel
theorem d62_43 : decode prog_23_method_5_code 43 = .ok (.lreturn, 1) := by decide +kernel
theorem pn_62 : plainName "com/example/millwright/millwright/cut/Pattern" = true := by first | (simp [plainName, overriddenIn]; done) | decide +kernel
theorem ef_rm62 (m : MethodId) (x0 : Addr) (x1 : Addr) : entryFrame m #[(.ref x0), (.ref x1)] 5 = mkF m 0 #[.val (.ref x0), .val (.ref x1), .unset, .unset, .unset] [] := by first | (simp [entryFrame, mkF, argsToLocals, Value.category]; done) | rfl
def Qrm62 (Z : State) (ap : Addr) (ao : Addr) (s3 : Addr) (ax : Addr) (k3_ : ClassId) (kx : ClassId) (qc : Int64) (ql : Int64) (h0 : Heap) (n0 : Nat) (v : Option Value) (h : Heap) (L : List Loc) : Prop := (v = some (.long ((0 : Int64) + (qc * ql)))) ∧ (Fr n0 L) ∧ (h = h0)
set_option maxRecDepth 65536 in
set_option maxHeartbeats 40000000 in
theorem rm62 (l : Launch) (Z : State) (a0 : Array Value) (hw : ∀ d ∈ tables_1, d.before a0 Z = true) (ws : List Jvm.Cond) (ap : Addr) (ao : Addr) (s3 : Addr) (ax : Addr) (k3_ : ClassId) (kx : ClassId) (qc : Int64) (ql : Int64) (h0 : Heap) (n0 : Nat) (Z0 : n0 ≤ h0.size) (pr1 : Exa Z h0 ap oS7) (pr2 : Fld Z h0 ap oS7 "counts" "[J" (.ref ax)) (pr3 : Arv Z h0 ax kx .long (1 : Int32) [(.long qc)] (.long (0 : Int64))) (pr4 : Exa Z h0 ao oS9) (pr5 : Fld Z h0 ao oS9 "length" "[J" (.ref s3)) (pr6 : Arv Z h0 s3 k3_ .long (1 : Int32) [(.long ql)] (.long (0 : Int64))) (hc_ : own_nn qc) (hl_ : own_nn ql) (hpr_ : own_pr qc ql) (hm_ : own_nn (qc * ql)) :
    MetFree l oM46 (head1 (Jvm.Cond.code oM46 prog_23_method_5_code 5 (some .long) :: ws) ({ frames := 2, cells := 0, slots := 0, locals := 36 } : Room)) (fun a U => a = #[(.ref ap), (.ref ao)] ∧ Z.Warmed39 U.vm ∧ U.heap = h0) (fun _ _ _ _ _ => True) (fun _ U o U' => ∃ v L, o = .returned v ∧ Qrm62 Z ap ao s3 ax k3_ kx qc ql h0 n0 v U'.heap L ∧ FrameEnd U o U' L ({ frames := 2, cells := 0, slots := 0, locals := 36 } : Room).cells ({ frames := 2, cells := 0, slots := 0, locals := 36 } : Room).slots) := by
  refine MetFree.of_bodySF (plainFor_of_name pn_62) hisR ?_
  intro p e s m args below meth c s₁ Bd hml0 hP0 hK
  obtain ⟨rfl, hZ, hh⟩ := hP0
  have hx := Bd.exec
  have hby := Bd.bytes
  have hml : c.maxLocals = 5 := hml0
  have hown : s.vm.findClass oS7 = some m.cls := findClass_of_methodNamed Bd.named
  have hnm := (name_of_methodNamed Bd.named Bd.method).1
  have X0 : Stand p l e ({ frames := 2, cells := 0, slots := 0, locals := 36 } : Room) s m #[(.ref ap), (.ref ao)] below meth c s₁ [] 0 0 := Stand.of_body Bd
  have e0 : s₁.heap = h0 := by rw [← hh, Bd.state]; rfl
  have N0 := Fr.nil n0
  refine own_fin (st' := s₁.setTop (mkF m 0 #[oR ap, oR ao, .unset, .unset, .unset] [])) (fun _ k => castTop (ef_rm62 m ap ao) k) (fun P hP => ?_)
  have lt_ap : @LT.lt Nat _ ap h0.size := pr1.lt
  have lt_ax : @LT.lt Nat _ ax h0.size := pr3.lt
  have lt_ao : @LT.lt Nat _ ao h0.size := pr4.lt
  have lt_s3 : @LT.lt Nat _ s3 h0.size := pr6.lt
  refine own_go (st' := s₁.setTop (mkF m 1 #[oR ap, oR ao, .unset, .unset, .unset] [(.long (0 : Int64))])) (fun _ k => XS.lconst X0.here hx rfl (hb hby d62_0) k) ?_
  refine own_go (st' := s₁.setTop (mkF m 2 #[oR ap, oR ao, .val (.long (0 : Int64)), .second, .unset] [])) (fun _ k => XS.lstoreN X0.here hx rfl (hb hby d62_1) rfl (l' := #[oR ap, oR ao, .val (.long (0 : Int64)), .second, .unset]) rfl k) ?_
  refine own_go (st' := s₁.setTop (mkF m 3 #[oR ap, oR ao, .val (.long (0 : Int64)), .second, .unset] [(.int (0 : Int32))])) (fun _ k => XS.iconst X0.here hx rfl (hb hby d62_2) k) ?_
  refine own_go (st' := s₁.setTop (mkF m 5 #[oR ap, oR ao, .val (.long (0 : Int64)), .second, oi 0] [])) (fun _ k => XS.istore X0.here hx rfl (hb hby d62_3) rfl (l' := #[oR ap, oR ao, .val (.long (0 : Int64)), .second, oi 0]) rfl k) ?_
  refine own_go (st' := s₁.setTop (mkF m 7 #[oR ap, oR ao, .val (.long (0 : Int64)), .second, oi 0] [(.int (0 : Int32))])) (fun _ k => XS.iload X0.here hx rfl (hb hby d62_5) rfl k) ?_
  refine own_go (st' := s₁.setTop (mkF m 8 #[oR ap, oR ao, .val (.long (0 : Int64)), .second, oi 0] [(.ref ap), (.int (0 : Int32))])) (fun _ k => XS.aloadN X0.here hx rfl (hb hby d62_7) rfl rfl k) ?_
  obtain ⟨T1, X1, e1, st1⟩ := getF X0 hx hZ hown (host := "") (Or.inl (own_hw hw 440)) Via.refl e0 pr2 (g := (mkF m 8 #[oR ap, oR ao, .val (.long (0 : Int64)), .second, oi 0] [(.ref ap), (.int (0 : Int32))])) rfl rfl (hb hby d62_8)
  refine own_go (st' := T1.setTop (mkF m 11 #[oR ap, oR ao, .val (.long (0 : Int64)), .second, oi 0] [(.ref ax), (.int (0 : Int32))])) (st1) ?_
  obtain ⟨cl2, Ar2, -, S2, M2, -, -⟩ := id pr3
  refine own_go (st' := T1.setTop (mkF m 12 #[oR ap, oR ao, .val (.long (0 : Int64)), .second, oi 0] [(.int (1 : Int32)), (.int (0 : Int32))])) (fun t k => X1.arraylength hx (by rw [e1]; exact Ar2.1) (State.isArrayOf_alike hZ.alike Ar2.2.1) (g := (mkF m 11 #[oR ap, oR ao, .val (.long (0 : Int64)), .second, oi 0] [(.ref ax), (.int (0 : Int32))])) rfl rfl (hb hby d62_11) t (by rw [len_of S2 M2]; exact k)) ?_
  have hc3 : (0 : Int32) < (1 : Int32) := by decide
  refine own_go (st' := T1.setTop (mkF m 15 #[oR ap, oR ao, .val (.long (0 : Int64)), .second, oi 0] [])) (fun _ k => XS.icmpNo X1.here hx rfl (hb hby d62_12) rfl (tlt hc3).2.1 k) ?_
  refine own_go (st' := T1.setTop (mkF m 16 #[oR ap, oR ao, .val (.long (0 : Int64)), .second, oi 0] [(.long (0 : Int64))])) (fun _ k => XS.lloadN X1.here hx rfl (hb hby d62_15) rfl k) ?_
  refine own_go (st' := T1.setTop (mkF m 17 #[oR ap, oR ao, .val (.long (0 : Int64)), .second, oi 0] [(.ref ap), (.long (0 : Int64))])) (fun _ k => XS.aloadN X1.here hx rfl (hb hby d62_16) rfl rfl k) ?_
  obtain ⟨T4, X4, e4, st4⟩ := getF X1 hx hZ hown (host := "") (Or.inl (own_hw hw 440)) Via.refl e1 pr2 (g := (mkF m 17 #[oR ap, oR ao, .val (.long (0 : Int64)), .second, oi 0] [(.ref ap), (.long (0 : Int64))])) rfl rfl (hb hby d62_17)
  refine own_go (st' := T4.setTop (mkF m 20 #[oR ap, oR ao, .val (.long (0 : Int64)), .second, oi 0] [(.ref ax), (.long (0 : Int64))])) (st4) ?_
  refine own_go (st' := T4.setTop (mkF m 22 #[oR ap, oR ao, .val (.long (0 : Int64)), .second, oi 0] [(.int (0 : Int32)), (.ref ax), (.long (0 : Int64))])) (fun _ k => XS.iload X4.here hx rfl (hb hby d62_20) rfl k) ?_
  obtain ⟨cl5, Ar5, -, S5, M5, H5, -⟩ := id pr3
  have hin5 : ¬ ((0 : Int32) < 0 ∨ cl5.slots.size ≤ ((0 : Int32)).toNatClampNeg) := (inb_of S5 ⟨by decide, by decide⟩)
  have hat5 : cl5.slots[((0 : Int32)).toNatClampNeg]? = some (.long qc) := (H5.at hin5 rfl)
  refine own_go (st' := T4.setTop (mkF m 23 #[oR ap, oR ao, .val (.long (0 : Int64)), .second, oi 0] [(.long qc), (.long (0 : Int64))])) (X4.laload hx (j := (0 : Int32)) (v := (.long qc)) (by rw [e4]; exact Ar5.1) (State.isArrayOf_alike hZ.alike Ar5.2.1) Ar5.2.2 hin5 hat5 (g := (mkF m 22 #[oR ap, oR ao, .val (.long (0 : Int64)), .second, oi 0] [(.int (0 : Int32)), (.ref ax), (.long (0 : Int64))])) rfl rfl (hb hby d62_22)) ?_
  refine own_go (st' := T4.setTop (mkF m 24 #[oR ap, oR ao, .val (.long (0 : Int64)), .second, oi 0] [(.ref ao), (.long qc), (.long (0 : Int64))])) (fun _ k => XS.aloadN X4.here hx rfl (hb hby d62_23) rfl rfl k) ?_
  refine own_go (st' := T4.setTop (mkF m 26 #[oR ap, oR ao, .val (.long (0 : Int64)), .second, oi 0] [(.int (0 : Int32)), (.ref ao), (.long qc), (.long (0 : Int64))])) (fun _ k => XS.iload X4.here hx rfl (hb hby d62_24) rfl k) ?_
  obtain ⟨cq6, kq6, q6a, q6b, q6c⟩ := isOf hZ e4 pr4
  obtain ⟨_, _, ⟨T6, LC6, kC6, nC6⟩, -, X6, ⟨Lc6, hQ6, lq6, yq6, zq6⟩, st6⟩ := X4.virtualBack hx (y := oM45) (z := oM45) hown (mvT hZ (own_hw hw 476)) (mvT hZ (own_hw hw 477)) (notFace_of_selects (args := #[]) (mvT hZ (own_hw hw 479))) (mvT hZ (own_hw hw 479)) (mvT hZ (own_hw hw 478)) (by decide) (backOf (W := 4) (rm63 l Z a0 hw [] ao s3 k3_ ql h0 n0 (by omega) pr5 pr6) hZ (own_hw hw 480) (own_hw hw 418) (by decide) (by decide)) q6a q6c (g := (mkF m 26 #[oR ap, oR ao, .val (.long (0 : Int64)), .second, oi 0] [(.int (0 : Int32)), (.ref ao), (.long qc), (.long (0 : Int64))])) rfl (by rw [hml]; rfl) (Steps.refl _) (argsL := [(.int (0 : Int32))]) (rest := [(.long qc), (.long (0 : Int64))]) (lenOf pd_34 rfl) rfl (by show 2 * 0 + _ ≤ _; exact Nat.le_of_eq rfl) (hb hby d62_26) (fun _ _ => ⟨rfl, e4, (by decide : 0 + 0 ≤ _), (by decide : 0 + 0 ≤ _)⟩)
  dsimp only [Pt.U, Pt.locs, Pt.cells, Pt.slots] at X6 lq6 yq6 zq6 st6 hQ6
  subst lq6 yq6 zq6
  obtain ⟨rfl, Nq6, eq6⟩ := hQ6
  have N6 := Fr.app N0 Nq6
  refine own_go (st' := T6.setTop (mkF m 29 #[oR ap, oR ao, .val (.long (0 : Int64)), .second, oi 0] [(.long ql), (.long qc), (.long (0 : Int64))])) (fun _ k => st6.trans k) ?_
  obtain ⟨_, _, ⟨T7, LC7, kC7, nC7⟩, -, X7, ⟨Lc7, hQ7, lq7, yq7, zq7⟩, st7⟩ := Jvm.LawKit.callS X6 hx (y := oM37) hown (mvT hZ (own_hw hw 481)) (mvT hZ (own_hw hw 411)) (mvT hZ (own_hw hw 408)) (mvT hZ (own_hw hw 412)) (by decide) (backOf (W := 2) (rm53 l Z a0 hw [] qc ql h0 n0 (by omega) (by assumption) (by assumption) (by assumption)) hZ (own_hw hw 412) (own_hw hw 408) (by decide) (by decide)) (g := (mkF m 29 #[oR ap, oR ao, .val (.long (0 : Int64)), .second, oi 0] [(.long ql), (.long qc), (.long (0 : Int64))])) rfl (by rw [hml]; rfl) (argsL := [(.long qc), (.long ql)]) (rest := [(.long (0 : Int64))]) (lenOf pd_28 rfl) rfl (by show 2 * 0 + _ ≤ _; exact Nat.le_of_eq rfl) (hb hby d62_29) (fun _ _ => ⟨rfl, eq6, (by decide : 0 + 0 ≤ _), (by decide : 0 + 0 ≤ _)⟩)
  dsimp only [Pt.U, Pt.locs, Pt.cells, Pt.slots] at X7 lq7 yq7 zq7 st7 hQ7
  subst lq7 yq7 zq7
  obtain ⟨rfl, Nq7, eq7⟩ := hQ7
  have N7 := Fr.app N6 Nq7
  refine own_go (st' := T7.setTop (mkF m 32 #[oR ap, oR ao, .val (.long (0 : Int64)), .second, oi 0] [(.long (qc * ql)), (.long (0 : Int64))])) (fun t k => st7 t k) ?_
  obtain ⟨_, _, ⟨T8, LC8, kC8, nC8⟩, -, X8, ⟨Lc8, hQ8, lq8, yq8, zq8⟩, st8⟩ := Jvm.LawKit.callS X7 hx (y := oM36) hown (mvT hZ (own_hw hw 482)) (mvT hZ (own_hw hw 407)) (mvT hZ (own_hw hw 408)) (mvT hZ (own_hw hw 409)) (by decide) (backOf (W := 0) (rm52 l Z a0 hw [] (qc * ql) h0 n0 (by omega) (by assumption)) hZ (own_hw hw 409) (own_hw hw 408) (by decide) (by decide)) (g := (mkF m 32 #[oR ap, oR ao, .val (.long (0 : Int64)), .second, oi 0] [(.long (qc * ql)), (.long (0 : Int64))])) rfl (by rw [hml]; rfl) (argsL := [(.long (0 : Int64)), (.long (qc * ql))]) (rest := []) (lenOf pd_28 rfl) rfl (by show 2 * 0 + _ ≤ _; exact Nat.le_of_eq rfl) (hb hby d62_32) (fun _ _ => ⟨rfl, eq7, (by decide : 0 + 0 ≤ _), (by decide : 0 + 0 ≤ _)⟩)
  dsimp only [Pt.U, Pt.locs, Pt.cells, Pt.slots] at X8 lq8 yq8 zq8 st8 hQ8
  subst lq8 yq8 zq8
  obtain ⟨rfl, Nq8, eq8⟩ := hQ8
  have N8 := Fr.app N7 Nq8
  refine own_go (st' := T8.setTop (mkF m 35 #[oR ap, oR ao, .val (.long (0 : Int64)), .second, oi 0] [(.long ((0 : Int64) + (qc * ql)))])) (fun t k => st8 t k) ?_
  refine own_go (st' := T8.setTop (mkF m 36 #[oR ap, oR ao, .val (.long ((0 : Int64) + (qc * ql))), .second, oi 0] [])) (fun _ k => XS.lstoreN X8.here hx rfl (hb hby d62_35) rfl (l' := #[oR ap, oR ao, .val (.long ((0 : Int64) + (qc * ql))), .second, oi 0]) rfl k) ?_
  refine own_go (st' := T8.setTop (mkF m 39 #[oR ap, oR ao, .val (.long ((0 : Int64) + (qc * ql))), .second, oi 1] [])) (fun _ k => XS.iinc X8.here hx rfl (hb hby d62_36) rfl (l' := #[oR ap, oR ao, .val (.long ((0 : Int64) + (qc * ql))), .second, oi 1]) (by rw [show ((0 : Int32) + Int32.ofInt 1) = (1 : Int32) by decide]; rfl) k) ?_
  refine own_go (st' := T8.setTop (mkF m 5 #[oR ap, oR ao, .val (.long ((0 : Int64) + (qc * ql))), .second, oi 1] [])) (fun _ k => XS.goto X8.here hx rfl (pc0 := 39) (pc' := 5) rfl (hb hby d62_39) (by decide) (by decide) k) ?_
  refine own_go (st' := T8.setTop (mkF m 7 #[oR ap, oR ao, .val (.long ((0 : Int64) + (qc * ql))), .second, oi 1] [(.int (1 : Int32))])) (fun _ k => XS.iload X8.here hx rfl (hb hby d62_5) rfl k) ?_
  refine own_go (st' := T8.setTop (mkF m 8 #[oR ap, oR ao, .val (.long ((0 : Int64) + (qc * ql))), .second, oi 1] [(.ref ap), (.int (1 : Int32))])) (fun _ k => XS.aloadN X8.here hx rfl (hb hby d62_7) rfl rfl k) ?_
  obtain ⟨T9, X9, e9, st9⟩ := getF X8 hx hZ hown (host := "") (Or.inl (own_hw hw 440)) Via.refl eq8 pr2 (g := (mkF m 8 #[oR ap, oR ao, .val (.long ((0 : Int64) + (qc * ql))), .second, oi 1] [(.ref ap), (.int (1 : Int32))])) rfl rfl (hb hby d62_8)
  refine own_go (st' := T9.setTop (mkF m 11 #[oR ap, oR ao, .val (.long ((0 : Int64) + (qc * ql))), .second, oi 1] [(.ref ax), (.int (1 : Int32))])) (st9) ?_
  obtain ⟨cl10, Ar10, -, S10, M10, -, -⟩ := id pr3
  refine own_go (st' := T9.setTop (mkF m 12 #[oR ap, oR ao, .val (.long ((0 : Int64) + (qc * ql))), .second, oi 1] [(.int (1 : Int32)), (.int (1 : Int32))])) (fun t k => X9.arraylength hx (by rw [e9]; exact Ar10.1) (State.isArrayOf_alike hZ.alike Ar10.2.1) (g := (mkF m 11 #[oR ap, oR ao, .val (.long ((0 : Int64) + (qc * ql))), .second, oi 1] [(.ref ax), (.int (1 : Int32))])) rfl rfl (hb hby d62_11) t (by rw [len_of S10 M10]; exact k)) ?_
  have hc11 : ¬ ((1 : Int32) < (1 : Int32)) := by decide
  refine own_go (st' := T9.setTop (mkF m 42 #[oR ap, oR ao, .val (.long ((0 : Int64) + (qc * ql))), .second, oi 1] [])) (fun _ k => XS.icmpYes X9.here hx rfl (pc0 := 12) (pc' := 42) rfl (hb hby d62_12) rfl (flt hc11).2.1 (by decide) (by decide) k) ?_
  refine own_go (st' := T9.setTop (mkF m 43 #[oR ap, oR ao, .val (.long ((0 : Int64) + (qc * ql))), .second, oi 1] [(.long ((0 : Int64) + (qc * ql)))])) (fun _ k => XS.lloadN X9.here hx rfl (hb hby d62_42) rfl k) ?_
  obtain ⟨fs, hr, hrun, hended, hW, hsame⟩ := X9.leave (v := some (.long ((0 : Int64) + (qc * ql)))) (fun h => by rw [Bd.returns] at h; cases h)
  refine ⟨_, _, ?_, hP _ _ hrun hended ⟨_, _, rfl, ?_, ⟨_, rfl⟩, hW, hsame.mono (by decide) (by decide)⟩⟩
  · exact retOut X9 hx Bd.returns rfl (Or.inr (Or.inl ⟨rfl, rfl, _, rfl⟩)) (hb hby d62_43) hr
  · show Qrm62 Z ap ao s3 ax k3_ kx qc ql h0 n0 _ T9.heap _
    rw [e9]
    exact ⟨rfl, N8, rfl⟩
theorem pd_35 : parseMethodDescriptor "(Lcom/example/millwright/millwright/cut/Order;)J" = some ⟨[(.object "com/example/millwright/millwright/cut/Order")], some .long⟩ := by decide +kernel
theorem d60_0 : decode prog_23_method_6_code 0 = .ok (.aload_n 1, 1) := by decide +kernel
theorem d60_1 : decode prog_23_method_6_code 1 = .ok (.aload_n 0, 1) := by decide +kernel
theorem d60_2 : decode prog_23_method_6_code 2 = .ok (.getfield 7, 3) := by decide +kernel
theorem d60_5 : decode prog_23_method_6_code 5 = .ok (.invokevirtual 41, 3) := by decide +kernel
theorem d60_8 : decode prog_23_method_6_code 8 = .ok (.aload_n 0, 1) := by decide +kernel
theorem d60_9 : decode prog_23_method_6_code 9 = .ok (.aload_n 1, 1) := by decide +kernel
theorem d60_10 : decode prog_23_method_6_code 10 = .ok (.invokevirtual 44, 3) := by decide +kernel
theorem d60_13 : decode prog_23_method_6_code 13 = .ok (.lsub, 1) := by decide +kernel
theorem d60_14 : decode prog_23_method_6_code 14 = .ok (.lreturn, 1) := by decide +kernel
theorem pn_60 : plainName "com/example/millwright/millwright/cut/Pattern" = true := by first | (simp [plainName, overriddenIn]; done) | decide +kernel
theorem ef_rm60 (m : MethodId) (x0 : Addr) (x1 : Addr) : entryFrame m #[(.ref x0), (.ref x1)] 2 = mkF m 0 #[.val (.ref x0), .val (.ref x1)] [] := by first | (simp [entryFrame, mkF, argsToLocals, Value.category]; done) | rfl
def Qrm60 (Z : State) (ap : Addr) (ao : Addr) (s3 : Addr) (ax : Addr) (k3_ : ClassId) (kx : ClassId) (qc : Int64) (ql : Int64) (s1 : Addr) (k1_ : ClassId) (qs : Int64) (h0 : Heap) (n0 : Nat) (v : Option Value) (h : Heap) (L : List Loc) : Prop := (v = some (.long (qs - ((0 : Int64) + (qc * ql))))) ∧ (Fr n0 L) ∧ (h = h0)
set_option maxRecDepth 65536 in
set_option maxHeartbeats 40000000 in
theorem rm60 (l : Launch) (Z : State) (a0 : Array Value) (hw : ∀ d ∈ tables_1, d.before a0 Z = true) (ws : List Jvm.Cond) (ap : Addr) (ao : Addr) (s3 : Addr) (ax : Addr) (k3_ : ClassId) (kx : ClassId) (qc : Int64) (ql : Int64) (s1 : Addr) (k1_ : ClassId) (qs : Int64) (h0 : Heap) (n0 : Nat) (Z0 : n0 ≤ h0.size) (pr1 : Exa Z h0 ap oS7) (pr2 : Fld Z h0 ap oS7 "counts" "[J" (.ref ax)) (pr3 : Arv Z h0 ax kx .long (1 : Int32) [(.long qc)] (.long (0 : Int64))) (pr4 : Exa Z h0 ao oS9) (pr5 : Fld Z h0 ao oS9 "length" "[J" (.ref s3)) (pr6 : Arv Z h0 s3 k3_ .long (1 : Int32) [(.long ql)] (.long (0 : Int64))) (hc_ : own_nn qc) (hl_ : own_nn ql) (hpr_ : own_pr qc ql) (hm_ : own_nn (qc * ql)) (pr7 : Fld Z h0 ap oS7 "stock" "I" (.int (0 : Int32))) (pr8 : Fld Z h0 ao oS9 "stockLength" "[J" (.ref s1)) (pr9 : Arv Z h0 s1 k1_ .long (1 : Int32) [(.long qs)] (.long (0 : Int64))) :
    MetFree l oM47 (head1 (Jvm.Cond.code oM47 prog_23_method_6_code 2 (some .long) :: ws) ({ frames := 3, cells := 0, slots := 0, locals := 54 } : Room)) (fun a U => a = #[(.ref ap), (.ref ao)] ∧ Z.Warmed39 U.vm ∧ U.heap = h0) (fun _ _ _ _ _ => True) (fun _ U o U' => ∃ v L, o = .returned v ∧ Qrm60 Z ap ao s3 ax k3_ kx qc ql s1 k1_ qs h0 n0 v U'.heap L ∧ FrameEnd U o U' L ({ frames := 3, cells := 0, slots := 0, locals := 54 } : Room).cells ({ frames := 3, cells := 0, slots := 0, locals := 54 } : Room).slots) := by
  refine MetFree.of_bodySF (plainFor_of_name pn_60) hisR ?_
  intro p e s m args below meth c s₁ Bd hml0 hP0 hK
  obtain ⟨rfl, hZ, hh⟩ := hP0
  have hx := Bd.exec
  have hby := Bd.bytes
  have hml : c.maxLocals = 2 := hml0
  have hown : s.vm.findClass oS7 = some m.cls := findClass_of_methodNamed Bd.named
  have hnm := (name_of_methodNamed Bd.named Bd.method).1
  have X0 : Stand p l e ({ frames := 3, cells := 0, slots := 0, locals := 54 } : Room) s m #[(.ref ap), (.ref ao)] below meth c s₁ [] 0 0 := Stand.of_body Bd
  have e0 : s₁.heap = h0 := by rw [← hh, Bd.state]; rfl
  have N0 := Fr.nil n0
  refine own_fin (st' := s₁.setTop (mkF m 0 #[oR ap, oR ao] [])) (fun _ k => castTop (ef_rm60 m ap ao) k) (fun P hP => ?_)
  have lt_ap : @LT.lt Nat _ ap h0.size := pr1.lt
  have lt_ax : @LT.lt Nat _ ax h0.size := pr3.lt
  have lt_ao : @LT.lt Nat _ ao h0.size := pr4.lt
  have lt_s3 : @LT.lt Nat _ s3 h0.size := pr6.lt
  have lt_s1 : @LT.lt Nat _ s1 h0.size := pr9.lt
  refine own_go (st' := s₁.setTop (mkF m 1 #[oR ap, oR ao] [(.ref ao)])) (fun _ k => XS.aloadN X0.here hx rfl (hb hby d60_0) rfl rfl k) ?_
  refine own_go (st' := s₁.setTop (mkF m 2 #[oR ap, oR ao] [(.ref ap), (.ref ao)])) (fun _ k => XS.aloadN X0.here hx rfl (hb hby d60_1) rfl rfl k) ?_
  obtain ⟨T1, X1, e1, st1⟩ := getF X0 hx hZ hown (host := "") (Or.inl (own_hw hw 438)) Via.refl e0 pr7 (g := (mkF m 2 #[oR ap, oR ao] [(.ref ap), (.ref ao)])) rfl rfl (hb hby d60_2)
  refine own_go (st' := T1.setTop (mkF m 5 #[oR ap, oR ao] [(.int (0 : Int32)), (.ref ao)])) (st1) ?_
  obtain ⟨cq2, kq2, q2a, q2b, q2c⟩ := isOf hZ e1 pr4
  obtain ⟨_, _, ⟨T2, LC2, kC2, nC2⟩, -, X2, ⟨Lc2, hQ2, lq2, yq2, zq2⟩, st2⟩ := X1.virtualBack hx (y := oM44) (z := oM44) hown (mvT hZ (own_hw hw 466)) (mvT hZ (own_hw hw 467)) (notFace_of_selects (args := #[]) (mvT hZ (own_hw hw 469))) (mvT hZ (own_hw hw 469)) (mvT hZ (own_hw hw 468)) (by decide) (backOf (W := 0) (rm61 l Z a0 hw [] ao s1 k1_ qs h0 n0 (by omega) pr8 pr9) hZ (own_hw hw 470) (own_hw hw 418) (by decide) (by decide)) q2a q2c (g := (mkF m 5 #[oR ap, oR ao] [(.int (0 : Int32)), (.ref ao)])) rfl (by rw [hml]; rfl) (Steps.refl _) (argsL := [(.int (0 : Int32))]) (rest := []) (lenOf pd_34 rfl) rfl (by show 2 * 0 + _ ≤ _; exact Nat.le_of_eq rfl) (hb hby d60_5) (fun _ _ => ⟨rfl, e1, (by decide : 0 + 0 ≤ _), (by decide : 0 + 0 ≤ _)⟩)
  dsimp only [Pt.U, Pt.locs, Pt.cells, Pt.slots] at X2 lq2 yq2 zq2 st2 hQ2
  subst lq2 yq2 zq2
  obtain ⟨rfl, Nq2, eq2⟩ := hQ2
  have N2 := Fr.app N0 Nq2
  refine own_go (st' := T2.setTop (mkF m 8 #[oR ap, oR ao] [(.long qs)])) (fun _ k => st2.trans k) ?_
  refine own_go (st' := T2.setTop (mkF m 9 #[oR ap, oR ao] [(.ref ap), (.long qs)])) (fun _ k => XS.aloadN X2.here hx rfl (hb hby d60_8) rfl rfl k) ?_
  refine own_go (st' := T2.setTop (mkF m 10 #[oR ap, oR ao] [(.ref ao), (.ref ap), (.long qs)])) (fun _ k => XS.aloadN X2.here hx rfl (hb hby d60_9) rfl rfl k) ?_
  obtain ⟨cq3, kq3, q3a, q3b, q3c⟩ := isOf hZ eq2 pr1
  obtain ⟨_, _, ⟨T3, LC3, kC3, nC3⟩, -, X3, ⟨Lc3, hQ3, lq3, yq3, zq3⟩, st3⟩ := X2.virtualBack hx (y := oM46) (z := oM46) hown (mvT hZ (own_hw hw 471)) (mvT hZ (own_hw hw 472)) (notFace_of_selects (args := #[]) (mvT hZ (own_hw hw 474))) (mvT hZ (own_hw hw 474)) (mvT hZ (own_hw hw 473)) (by decide) (backOf (W := 2) (rm62 l Z a0 hw [] ap ao s3 ax k3_ kx qc ql h0 n0 (by omega) pr1 pr2 pr3 pr4 pr5 pr6 (by assumption) (by assumption) (by assumption) (by assumption)) hZ (own_hw hw 475) (own_hw hw 433) (by decide) (by decide)) q3a q3c (g := (mkF m 10 #[oR ap, oR ao] [(.ref ao), (.ref ap), (.long qs)])) rfl (by rw [hml]; rfl) (Steps.refl _) (argsL := [(.ref ao)]) (rest := [(.long qs)]) (lenOf pd_35 rfl) rfl (by show 2 * 0 + _ ≤ _; exact Nat.le_of_eq rfl) (hb hby d60_10) (fun _ _ => ⟨rfl, eq2, (by decide : 0 + 0 ≤ _), (by decide : 0 + 0 ≤ _)⟩)
  dsimp only [Pt.U, Pt.locs, Pt.cells, Pt.slots] at X3 lq3 yq3 zq3 st3 hQ3
  subst lq3 yq3 zq3
  obtain ⟨rfl, Nq3, eq3⟩ := hQ3
  have N3 := Fr.app N2 Nq3
  refine own_go (st' := T3.setTop (mkF m 13 #[oR ap, oR ao] [(.long ((0 : Int64) + (qc * ql))), (.long qs)])) (fun _ k => st3.trans k) ?_
  refine own_go (st' := T3.setTop (mkF m 14 #[oR ap, oR ao] [(.long (qs - ((0 : Int64) + (qc * ql))))])) (fun _ k => XS.lsub X3.here hx rfl (hb hby d60_13) rfl k) ?_
  obtain ⟨fs, hr, hrun, hended, hW, hsame⟩ := X3.leave (v := some (.long (qs - ((0 : Int64) + (qc * ql))))) (fun h => by rw [Bd.returns] at h; cases h)
  refine ⟨_, _, ?_, hP _ _ hrun hended ⟨_, _, rfl, ?_, ⟨_, rfl⟩, hW, hsame.mono (by decide) (by decide)⟩⟩
  · exact retOut X3 hx Bd.returns rfl (Or.inr (Or.inl ⟨rfl, rfl, _, rfl⟩)) (hb hby d60_14) hr
  · show Qrm60 Z ap ao s3 ax k3_ kx qc ql s1 k1_ qs h0 n0 _ T3.heap _
    rw [eq3]
    exact ⟨rfl, N3, rfl⟩
theorem d58_0 : decode prog_17_method_8_code 0 = .ok (.aload_n 0, 1) := by decide +kernel
theorem d58_1 : decode prog_17_method_8_code 1 = .ok (.getstatic 3, 3) := by decide +kernel
theorem d58_4 : decode prog_17_method_8_code 4 = .ok (.if_acmp .ne 7, 3) := by decide +kernel
theorem d58_7 : decode prog_17_method_8_code 7 = .ok (.lconst 1, 1) := by decide +kernel
theorem d58_8 : decode prog_17_method_8_code 8 = .ok (.goto 4, 3) := by decide +kernel
theorem d58_12 : decode prog_17_method_8_code 12 = .ok (.lreturn, 1) := by decide +kernel
theorem pn_58 : plainName "com/example/millwright/millwright/cut/Objective" = true := by first | (simp [plainName, overriddenIn]; done) | decide +kernel
theorem ef_rlv_1 (m : MethodId) (x0 : Addr) : entryFrame m #[(.ref x0)] 1 = mkF m 0 #[.val (.ref x0)] [] := by first | (simp [entryFrame, mkF, argsToLocals, Value.category]; done) | rfl
def Qrlv_1 (Z : State) (so : Addr) (h0 : Heap) (n0 : Nat) (v : Option Value) (h : Heap) (L : List Loc) : Prop := (v = some (.long (1 : Int64))) ∧ (Fr n0 L) ∧ (h = h0)
set_option maxRecDepth 65536 in
set_option maxHeartbeats 40000000 in
theorem rlv_1 (l : Launch) (Z : State) (a0 : Array Value) (hw : ∀ d ∈ tables_1, d.before a0 Z = true) (ws : List Jvm.Cond) (so : Addr) (h0 : Heap) (n0 : Nat) (Z0 : n0 ≤ h0.size) (pr1 : Sta Z h0 oS19 "STOCK" oS28 (.ref so)) :
    MetFree l oM4 (head1 (Jvm.Cond.code oM4 prog_17_method_8_code 1 (some .long) :: ws) ({ frames := 0, cells := 0, slots := 0, locals := 0 } : Room)) (fun a U => a = #[(.ref so)] ∧ Z.Warmed39 U.vm ∧ U.heap = h0) (fun _ _ _ _ _ => True) (fun _ U o U' => ∃ v L, o = .returned v ∧ Qrlv_1 Z so h0 n0 v U'.heap L ∧ FrameEnd U o U' L ({ frames := 0, cells := 0, slots := 0, locals := 0 } : Room).cells ({ frames := 0, cells := 0, slots := 0, locals := 0 } : Room).slots) := by
  refine MetFree.of_bodySF (plainFor_of_name pn_58) hisR ?_
  intro p e s m args below meth c s₁ Bd hml0 hP0 hK
  obtain ⟨rfl, hZ, hh⟩ := hP0
  have hx := Bd.exec
  have hby := Bd.bytes
  have hml : c.maxLocals = 1 := hml0
  have hown : s.vm.findClass oS19 = some m.cls := findClass_of_methodNamed Bd.named
  have hnm := (name_of_methodNamed Bd.named Bd.method).1
  have X0 : Stand p l e ({ frames := 0, cells := 0, slots := 0, locals := 0 } : Room) s m #[(.ref so)] below meth c s₁ [] 0 0 := Stand.of_body Bd
  have e0 : s₁.heap = h0 := by rw [← hh, Bd.state]; rfl
  have N0 := Fr.nil n0
  refine own_fin (st' := s₁.setTop (mkF m 0 #[oR so] [])) (fun _ k => castTop (ef_rlv_1 m so) k) (fun P hP => ?_)
  refine own_go (st' := s₁.setTop (mkF m 1 #[oR so] [(.ref so)])) (fun _ k => XS.aloadN X0.here hx rfl (hb hby d58_0) rfl rfl k) ?_
  obtain ⟨T1, X1, e1, st1⟩ := getS2 X0 hx hZ hown (host := "") (Or.inl (own_hw hw 453)) Via.refl e0 pr1 (g := (mkF m 1 #[oR so] [(.ref so)])) rfl (hb hby d58_1)
  refine own_go (st' := T1.setTop (mkF m 4 #[oR so] [(.ref so), (.ref so)])) (st1) ?_
  refine own_go (st' := T1.setTop (mkF m 7 #[oR so] [])) (fun _ k => Jvm.RoadKit.acmp (g := (mkF m 4 #[oR so] [(.ref so), (.ref so)])) X1 hx rfl rfl rfl (pc0 := 4) (pc' := 7) (same := true) rfl (hb hby d58_4) rfl (decide_eq_true rfl) (by decide) (by decide) k) ?_
  refine own_go (st' := T1.setTop (mkF m 8 #[oR so] [(.long (1 : Int64))])) (fun _ k => XS.lconst X1.here hx rfl (hb hby d58_7) k) ?_
  refine own_go (st' := T1.setTop (mkF m 12 #[oR so] [(.long (1 : Int64))])) (fun _ k => XS.goto X1.here hx rfl (pc0 := 8) (pc' := 12) rfl (hb hby d58_8) (by decide) (by decide) k) ?_
  obtain ⟨fs, hr, hrun, hended, hW, hsame⟩ := X1.leave (v := some (.long (1 : Int64))) (fun h => by rw [Bd.returns] at h; cases h)
  refine ⟨_, _, ?_, hP _ _ hrun hended ⟨_, _, rfl, ?_, ⟨_, rfl⟩, hW, hsame.mono (by decide) (by decide)⟩⟩
  · exact retOut X1 hx Bd.returns rfl (Or.inr (Or.inl ⟨rfl, rfl, _, rfl⟩)) (hb hby d58_12) hr
  · show Qrlv_1 Z so h0 n0 _ T1.heap _
    rw [e1]
    exact ⟨rfl, N0, rfl⟩
theorem d58_11 : decode prog_17_method_8_code 11 = .ok (.lconst 0, 1) := by decide +kernel
theorem ef_rlv_0 (m : MethodId) (x0 : Addr) : entryFrame m #[(.ref x0)] 1 = mkF m 0 #[.val (.ref x0)] [] := by first | (simp [entryFrame, mkF, argsToLocals, Value.category]; done) | rfl
def Qrlv_0 (Z : State) (so : Addr) (to : Addr) (h0 : Heap) (n0 : Nat) (v : Option Value) (h : Heap) (L : List Loc) : Prop := (v = some (.long (0 : Int64))) ∧ (Fr n0 L) ∧ (h = h0)
set_option maxRecDepth 65536 in
set_option maxHeartbeats 40000000 in
theorem rlv_0 (l : Launch) (Z : State) (a0 : Array Value) (hw : ∀ d ∈ tables_1, d.before a0 Z = true) (ws : List Jvm.Cond) (so : Addr) (to : Addr) (h0 : Heap) (n0 : Nat) (Z0 : n0 ≤ h0.size) (pr1 : Sta Z h0 oS19 "STOCK" oS28 (.ref so)) (pr2 : own_D to so) :
    MetFree l oM4 (head1 (Jvm.Cond.code oM4 prog_17_method_8_code 1 (some .long) :: ws) ({ frames := 0, cells := 0, slots := 0, locals := 0 } : Room)) (fun a U => a = #[(.ref to)] ∧ Z.Warmed39 U.vm ∧ U.heap = h0) (fun _ _ _ _ _ => True) (fun _ U o U' => ∃ v L, o = .returned v ∧ Qrlv_0 Z so to h0 n0 v U'.heap L ∧ FrameEnd U o U' L ({ frames := 0, cells := 0, slots := 0, locals := 0 } : Room).cells ({ frames := 0, cells := 0, slots := 0, locals := 0 } : Room).slots) := by
  refine MetFree.of_bodySF (plainFor_of_name pn_58) hisR ?_
  intro p e s m args below meth c s₁ Bd hml0 hP0 hK
  obtain ⟨rfl, hZ, hh⟩ := hP0
  have hx := Bd.exec
  have hby := Bd.bytes
  have hml : c.maxLocals = 1 := hml0
  have hown : s.vm.findClass oS19 = some m.cls := findClass_of_methodNamed Bd.named
  have hnm := (name_of_methodNamed Bd.named Bd.method).1
  have X0 : Stand p l e ({ frames := 0, cells := 0, slots := 0, locals := 0 } : Room) s m #[(.ref to)] below meth c s₁ [] 0 0 := Stand.of_body Bd
  have e0 : s₁.heap = h0 := by rw [← hh, Bd.state]; rfl
  have N0 := Fr.nil n0
  refine own_fin (st' := s₁.setTop (mkF m 0 #[oR to] [])) (fun _ k => castTop (ef_rlv_0 m to) k) (fun P hP => ?_)
  refine own_go (st' := s₁.setTop (mkF m 1 #[oR to] [(.ref to)])) (fun _ k => XS.aloadN X0.here hx rfl (hb hby d58_0) rfl rfl k) ?_
  obtain ⟨T1, X1, e1, st1⟩ := getS2 X0 hx hZ hown (host := "") (Or.inl (own_hw hw 453)) Via.refl e0 pr1 (g := (mkF m 1 #[oR to] [(.ref to)])) rfl (hb hby d58_1)
  refine own_go (st' := T1.setTop (mkF m 4 #[oR to] [(.ref so), (.ref to)])) (st1) ?_
  have hc2 : ¬ (to = so) := (own_nea (by assumption))
  refine own_go (st' := T1.setTop (mkF m 11 #[oR to] [])) (fun _ k => Jvm.RoadKit.acmp (g := (mkF m 4 #[oR to] [(.ref so), (.ref to)])) X1 hx rfl rfl rfl (pc0 := 4) (pc' := 11) (same := false) rfl (hb hby d58_4) rfl (decide_eq_false fun q_ => hc2 (Value.ref.inj q_)) (by decide) (by decide) k) ?_
  refine own_go (st' := T1.setTop (mkF m 12 #[oR to] [(.long (0 : Int64))])) (fun _ k => XS.lconst X1.here hx rfl (hb hby d58_11) k) ?_
  obtain ⟨fs, hr, hrun, hended, hW, hsame⟩ := X1.leave (v := some (.long (0 : Int64))) (fun h => by rw [Bd.returns] at h; cases h)
  refine ⟨_, _, ?_, hP _ _ hrun hended ⟨_, _, rfl, ?_, ⟨_, rfl⟩, hW, hsame.mono (by decide) (by decide)⟩⟩
  · exact retOut X1 hx Bd.returns rfl (Or.inr (Or.inl ⟨rfl, rfl, _, rfl⟩)) (hb hby d58_12) hr
  · show Qrlv_0 Z so to h0 n0 _ T1.heap _
    rw [e1]
    exact ⟨rfl, N0, rfl⟩
theorem d59_0 : decode prog_17_method_4_code 0 = .ok (.aload_n 0, 1) := by decide +kernel
theorem d59_1 : decode prog_17_method_4_code 1 = .ok (.getstatic 3, 3) := by decide +kernel
theorem d59_4 : decode prog_17_method_4_code 4 = .ok (.if_acmp .ne 7, 3) := by decide +kernel
theorem d59_7 : decode prog_17_method_4_code 7 = .ok (.lconst 1, 1) := by decide +kernel
theorem d59_8 : decode prog_17_method_4_code 8 = .ok (.goto 8, 3) := by decide +kernel
theorem d59_16 : decode prog_17_method_4_code 16 = .ok (.lreturn, 1) := by decide +kernel
theorem pn_59 : plainName "com/example/millwright/millwright/cut/Objective" = true := by first | (simp [plainName, overriddenIn]; done) | decide +kernel
theorem ef_rpc_1 (m : MethodId) (x0 : Addr) (x1 : Addr) (x2 : Addr) : entryFrame m #[(.ref x0), (.ref x1), (.ref x2)] 3 = mkF m 0 #[.val (.ref x0), .val (.ref x1), .val (.ref x2)] [] := by first | (simp [entryFrame, mkF, argsToLocals, Value.category]; done) | rfl
def Qrpc_1 (Z : State) (so : Addr) (ao : Addr) (ap : Addr) (h0 : Heap) (n0 : Nat) (v : Option Value) (h : Heap) (L : List Loc) : Prop := (v = some (.long (1 : Int64))) ∧ (Fr n0 L) ∧ (h = h0)
set_option maxRecDepth 65536 in
set_option maxHeartbeats 40000000 in
theorem rpc_1 (l : Launch) (Z : State) (a0 : Array Value) (hw : ∀ d ∈ tables_1, d.before a0 Z = true) (ws : List Jvm.Cond) (so : Addr) (ao : Addr) (ap : Addr) (h0 : Heap) (n0 : Nat) (Z0 : n0 ≤ h0.size) (pr1 : Sta Z h0 oS19 "STOCK" oS28 (.ref so)) :
    MetFree l oM1 (head1 (Jvm.Cond.code oM1 prog_17_method_4_code 3 (some .long) :: ws) ({ frames := 0, cells := 0, slots := 0, locals := 0 } : Room)) (fun a U => a = #[(.ref so), (.ref ao), (.ref ap)] ∧ Z.Warmed39 U.vm ∧ U.heap = h0) (fun _ _ _ _ _ => True) (fun _ U o U' => ∃ v L, o = .returned v ∧ Qrpc_1 Z so ao ap h0 n0 v U'.heap L ∧ FrameEnd U o U' L ({ frames := 0, cells := 0, slots := 0, locals := 0 } : Room).cells ({ frames := 0, cells := 0, slots := 0, locals := 0 } : Room).slots) := by
  refine MetFree.of_bodySF (plainFor_of_name pn_59) hisR ?_
  intro p e s m args below meth c s₁ Bd hml0 hP0 hK
  obtain ⟨rfl, hZ, hh⟩ := hP0
  have hx := Bd.exec
  have hby := Bd.bytes
  have hml : c.maxLocals = 3 := hml0
  have hown : s.vm.findClass oS19 = some m.cls := findClass_of_methodNamed Bd.named
  have hnm := (name_of_methodNamed Bd.named Bd.method).1
  have X0 : Stand p l e ({ frames := 0, cells := 0, slots := 0, locals := 0 } : Room) s m #[(.ref so), (.ref ao), (.ref ap)] below meth c s₁ [] 0 0 := Stand.of_body Bd
  have e0 : s₁.heap = h0 := by rw [← hh, Bd.state]; rfl
  have N0 := Fr.nil n0
  refine own_fin (st' := s₁.setTop (mkF m 0 #[oR so, oR ao, oR ap] [])) (fun _ k => castTop (ef_rpc_1 m so ao ap) k) (fun P hP => ?_)
  refine own_go (st' := s₁.setTop (mkF m 1 #[oR so, oR ao, oR ap] [(.ref so)])) (fun _ k => XS.aloadN X0.here hx rfl (hb hby d59_0) rfl rfl k) ?_
  obtain ⟨T1, X1, e1, st1⟩ := getS2 X0 hx hZ hown (host := "") (Or.inl (own_hw hw 453)) Via.refl e0 pr1 (g := (mkF m 1 #[oR so, oR ao, oR ap] [(.ref so)])) rfl (hb hby d59_1)
  refine own_go (st' := T1.setTop (mkF m 4 #[oR so, oR ao, oR ap] [(.ref so), (.ref so)])) (st1) ?_
  refine own_go (st' := T1.setTop (mkF m 7 #[oR so, oR ao, oR ap] [])) (fun _ k => Jvm.RoadKit.acmp (g := (mkF m 4 #[oR so, oR ao, oR ap] [(.ref so), (.ref so)])) X1 hx rfl rfl rfl (pc0 := 4) (pc' := 7) (same := true) rfl (hb hby d59_4) rfl (decide_eq_true rfl) (by decide) (by decide) k) ?_
  refine own_go (st' := T1.setTop (mkF m 8 #[oR so, oR ao, oR ap] [(.long (1 : Int64))])) (fun _ k => XS.lconst X1.here hx rfl (hb hby d59_7) k) ?_
  refine own_go (st' := T1.setTop (mkF m 16 #[oR so, oR ao, oR ap] [(.long (1 : Int64))])) (fun _ k => XS.goto X1.here hx rfl (pc0 := 8) (pc' := 16) rfl (hb hby d59_8) (by decide) (by decide) k) ?_
  obtain ⟨fs, hr, hrun, hended, hW, hsame⟩ := X1.leave (v := some (.long (1 : Int64))) (fun h => by rw [Bd.returns] at h; cases h)
  refine ⟨_, _, ?_, hP _ _ hrun hended ⟨_, _, rfl, ?_, ⟨_, rfl⟩, hW, hsame.mono (by decide) (by decide)⟩⟩
  · exact retOut X1 hx Bd.returns rfl (Or.inr (Or.inl ⟨rfl, rfl, _, rfl⟩)) (hb hby d59_16) hr
  · show Qrpc_1 Z so ao ap h0 n0 _ T1.heap _
    rw [e1]
    exact ⟨rfl, N0, rfl⟩
theorem d59_11 : decode prog_17_method_4_code 11 = .ok (.aload_n 2, 1) := by decide +kernel
theorem d59_12 : decode prog_17_method_4_code 12 = .ok (.aload_n 1, 1) := by decide +kernel
theorem d59_13 : decode prog_17_method_4_code 13 = .ok (.invokevirtual 29, 3) := by decide +kernel
theorem ef_rpc_0 (m : MethodId) (x0 : Addr) (x1 : Addr) (x2 : Addr) : entryFrame m #[(.ref x0), (.ref x1), (.ref x2)] 3 = mkF m 0 #[.val (.ref x0), .val (.ref x1), .val (.ref x2)] [] := by first | (simp [entryFrame, mkF, argsToLocals, Value.category]; done) | rfl
def Qrpc_0 (Z : State) (so : Addr) (to : Addr) (ap : Addr) (ao : Addr) (s3 : Addr) (ax : Addr) (k3_ : ClassId) (kx : ClassId) (qc : Int64) (ql : Int64) (s1 : Addr) (k1_ : ClassId) (qs : Int64) (h0 : Heap) (n0 : Nat) (v : Option Value) (h : Heap) (L : List Loc) : Prop := (v = some (.long (qs - ((0 : Int64) + (qc * ql))))) ∧ (Fr n0 L) ∧ (h = h0)
set_option maxRecDepth 65536 in
set_option maxHeartbeats 40000000 in
theorem rpc_0 (l : Launch) (Z : State) (a0 : Array Value) (hw : ∀ d ∈ tables_1, d.before a0 Z = true) (ws : List Jvm.Cond) (so : Addr) (to : Addr) (ap : Addr) (ao : Addr) (s3 : Addr) (ax : Addr) (k3_ : ClassId) (kx : ClassId) (qc : Int64) (ql : Int64) (s1 : Addr) (k1_ : ClassId) (qs : Int64) (h0 : Heap) (n0 : Nat) (Z0 : n0 ≤ h0.size) (pr1 : Sta Z h0 oS19 "STOCK" oS28 (.ref so)) (pr2 : own_D to so) (pr3 : Exa Z h0 ap oS7) (pr4 : Fld Z h0 ap oS7 "counts" "[J" (.ref ax)) (pr5 : Arv Z h0 ax kx .long (1 : Int32) [(.long qc)] (.long (0 : Int64))) (pr6 : Exa Z h0 ao oS9) (pr7 : Fld Z h0 ao oS9 "length" "[J" (.ref s3)) (pr8 : Arv Z h0 s3 k3_ .long (1 : Int32) [(.long ql)] (.long (0 : Int64))) (hc_ : own_nn qc) (hl_ : own_nn ql) (hpr_ : own_pr qc ql) (hm_ : own_nn (qc * ql)) (pr9 : Fld Z h0 ap oS7 "stock" "I" (.int (0 : Int32))) (pr10 : Fld Z h0 ao oS9 "stockLength" "[J" (.ref s1)) (pr11 : Arv Z h0 s1 k1_ .long (1 : Int32) [(.long qs)] (.long (0 : Int64))) :
    MetFree l oM1 (head1 (Jvm.Cond.code oM1 prog_17_method_4_code 3 (some .long) :: ws) ({ frames := 4, cells := 0, slots := 0, locals := 67 } : Room)) (fun a U => a = #[(.ref to), (.ref ao), (.ref ap)] ∧ Z.Warmed39 U.vm ∧ U.heap = h0) (fun _ _ _ _ _ => True) (fun _ U o U' => ∃ v L, o = .returned v ∧ Qrpc_0 Z so to ap ao s3 ax k3_ kx qc ql s1 k1_ qs h0 n0 v U'.heap L ∧ FrameEnd U o U' L ({ frames := 4, cells := 0, slots := 0, locals := 67 } : Room).cells ({ frames := 4, cells := 0, slots := 0, locals := 67 } : Room).slots) := by
  refine MetFree.of_bodySF (plainFor_of_name pn_59) hisR ?_
  intro p e s m args below meth c s₁ Bd hml0 hP0 hK
  obtain ⟨rfl, hZ, hh⟩ := hP0
  have hx := Bd.exec
  have hby := Bd.bytes
  have hml : c.maxLocals = 3 := hml0
  have hown : s.vm.findClass oS19 = some m.cls := findClass_of_methodNamed Bd.named
  have hnm := (name_of_methodNamed Bd.named Bd.method).1
  have X0 : Stand p l e ({ frames := 4, cells := 0, slots := 0, locals := 67 } : Room) s m #[(.ref to), (.ref ao), (.ref ap)] below meth c s₁ [] 0 0 := Stand.of_body Bd
  have e0 : s₁.heap = h0 := by rw [← hh, Bd.state]; rfl
  have N0 := Fr.nil n0
  refine own_fin (st' := s₁.setTop (mkF m 0 #[oR to, oR ao, oR ap] [])) (fun _ k => castTop (ef_rpc_0 m to ao ap) k) (fun P hP => ?_)
  have lt_ap : @LT.lt Nat _ ap h0.size := pr3.lt
  have lt_ax : @LT.lt Nat _ ax h0.size := pr5.lt
  have lt_ao : @LT.lt Nat _ ao h0.size := pr6.lt
  have lt_s3 : @LT.lt Nat _ s3 h0.size := pr8.lt
  have lt_s1 : @LT.lt Nat _ s1 h0.size := pr11.lt
  refine own_go (st' := s₁.setTop (mkF m 1 #[oR to, oR ao, oR ap] [(.ref to)])) (fun _ k => XS.aloadN X0.here hx rfl (hb hby d59_0) rfl rfl k) ?_
  obtain ⟨T1, X1, e1, st1⟩ := getS2 X0 hx hZ hown (host := "") (Or.inl (own_hw hw 453)) Via.refl e0 pr1 (g := (mkF m 1 #[oR to, oR ao, oR ap] [(.ref to)])) rfl (hb hby d59_1)
  refine own_go (st' := T1.setTop (mkF m 4 #[oR to, oR ao, oR ap] [(.ref so), (.ref to)])) (st1) ?_
  have hc2 : ¬ (to = so) := (own_nea (by assumption))
  refine own_go (st' := T1.setTop (mkF m 11 #[oR to, oR ao, oR ap] [])) (fun _ k => Jvm.RoadKit.acmp (g := (mkF m 4 #[oR to, oR ao, oR ap] [(.ref so), (.ref to)])) X1 hx rfl rfl rfl (pc0 := 4) (pc' := 11) (same := false) rfl (hb hby d59_4) rfl (decide_eq_false fun q_ => hc2 (Value.ref.inj q_)) (by decide) (by decide) k) ?_
  refine own_go (st' := T1.setTop (mkF m 12 #[oR to, oR ao, oR ap] [(.ref ap)])) (fun _ k => XS.aloadN X1.here hx rfl (hb hby d59_11) rfl rfl k) ?_
  refine own_go (st' := T1.setTop (mkF m 13 #[oR to, oR ao, oR ap] [(.ref ao), (.ref ap)])) (fun _ k => XS.aloadN X1.here hx rfl (hb hby d59_12) rfl rfl k) ?_
  obtain ⟨cq3, kq3, q3a, q3b, q3c⟩ := isOf hZ e1 pr3
  obtain ⟨_, _, ⟨T3, LC3, kC3, nC3⟩, -, X3, ⟨Lc3, hQ3, lq3, yq3, zq3⟩, st3⟩ := X1.virtualBack hx (y := oM47) (z := oM47) hown (mvT hZ (own_hw hw 461)) (mvT hZ (own_hw hw 462)) (notFace_of_selects (args := #[]) (mvT hZ (own_hw hw 464))) (mvT hZ (own_hw hw 464)) (mvT hZ (own_hw hw 463)) (by decide) (backOf (W := 0) (rm60 l Z a0 hw [] ap ao s3 ax k3_ kx qc ql s1 k1_ qs h0 n0 (by omega) pr3 pr4 pr5 pr6 pr7 pr8 (by assumption) (by assumption) (by assumption) (by assumption) pr9 pr10 pr11) hZ (own_hw hw 465) (own_hw hw 433) (by decide) (by decide)) q3a q3c (g := (mkF m 13 #[oR to, oR ao, oR ap] [(.ref ao), (.ref ap)])) rfl (by rw [hml]; rfl) (Steps.refl _) (argsL := [(.ref ao)]) (rest := []) (lenOf pd_35 rfl) rfl (by show 2 * 0 + _ ≤ _; exact Nat.le_of_eq rfl) (hb hby d59_13) (fun _ _ => ⟨rfl, e1, (by decide : 0 + 0 ≤ _), (by decide : 0 + 0 ≤ _)⟩)
  dsimp only [Pt.U, Pt.locs, Pt.cells, Pt.slots] at X3 lq3 yq3 zq3 st3 hQ3
  subst lq3 yq3 zq3
  obtain ⟨rfl, Nq3, eq3⟩ := hQ3
  have N3 := Fr.app N0 Nq3
  refine own_go (st' := T3.setTop (mkF m 16 #[oR to, oR ao, oR ap] [(.long (qs - ((0 : Int64) + (qc * ql))))])) (fun _ k => st3.trans k) ?_
  obtain ⟨fs, hr, hrun, hended, hW, hsame⟩ := X3.leave (v := some (.long (qs - ((0 : Int64) + (qc * ql))))) (fun h => by rw [Bd.returns] at h; cases h)
  refine ⟨_, _, ?_, hP _ _ hrun hended ⟨_, _, rfl, ?_, ⟨_, rfl⟩, hW, hsame.mono (by decide) (by decide)⟩⟩
  · exact retOut X3 hx Bd.returns rfl (Or.inr (Or.inl ⟨rfl, rfl, _, rfl⟩)) (hb hby d59_16) hr
  · show Qrpc_0 Z so to ap ao s3 ax k3_ kx qc ql s1 k1_ qs h0 n0 _ T3.heap _
    rw [eq3]
    exact ⟨rfl, N3, rfl⟩
theorem pd_36 : parseMethodDescriptor "(J)Lcom/example/millwright/millwright/cut/Order$Builder;" = some ⟨[.long], some (.object "com/example/millwright/millwright/cut/Order$Builder")⟩ := by decide +kernel
theorem pd_37 : parseMethodDescriptor "()Lcom/example/millwright/millwright/cut/Order;" = some ⟨[], some (.object "com/example/millwright/millwright/cut/Order")⟩ := by decide +kernel
theorem pd_38 : parseMethodDescriptor "(I[J)V" = some ⟨[.int, (.array .long)], none⟩ := by decide +kernel
theorem pd_39 : parseMethodDescriptor "(Lcom/example/millwright/millwright/cut/Order;Lcom/example/millwright/millwright/cut/Pattern;)J" = some ⟨[(.object "com/example/millwright/millwright/cut/Order"), (.object "com/example/millwright/millwright/cut/Pattern")], some .long⟩ := by decide +kernel
theorem pn_0 : plainName "com/example/millwright/millwright/cut/ObjectiveLeastStockValuePinLaw" = true := by first | (simp [plainName, overriddenIn]; done) | decide +kernel
theorem ef_rm0 (m : MethodId) (x0 : Int32) (x1 : Int32) (x2 : Int32) (x3 : Int32) (x4 : Int32) : entryFrame m #[(.int x0), (.int x1), (.int x2), (.int x3), (.int x4)] maxLocals = mkF m 0 #[.val (.int x0), .val (.int x1), .val (.int x2), .val (.int x3), .val (.int x4), .unset, .unset, .unset, .unset, .unset, .unset, .unset, .unset, .unset, .unset, .unset, .unset, .unset, .unset] [] := by first | (simp [entryFrame, mkF, argsToLocals, Value.category, maxLocals]; done) | rfl
def Qrm0 (Z : State) (p0 : Int32) (p1 : Int32) (p2 : Int32) (p3 : Int32) (p4 : Int32) (a_STOCK : Addr) (a_LONGEST_FIRST : Addr) (a_TRIM : Addr) (cal : Addr) (h0 : Heap) (n0 : Nat) (v : Option Value) (h : Heap) (L : List Loc) : Prop := v = some (.int 1) ∧ Fr n0 L ∧ True
set_option maxRecDepth 65536 in
set_option maxHeartbeats 40000000 in
theorem rm0 (l : Launch) (Z : State) (a0 : Array Value) (hw : ∀ d ∈ tables_1, d.before a0 Z = true) (ws : List Jvm.Cond) (p0 : Int32) (p1 : Int32) (p2 : Int32) (p3 : Int32) (p4 : Int32) (a_STOCK : Addr) (a_LONGEST_FIRST : Addr) (a_TRIM : Addr) (cal : Addr) (h0 : Heap) (n0 : Nat) (Z0 : n0 ≤ h0.size) (pr1 : Sta Z h0 oS19 "STOCK" oS28 (.ref a_STOCK)) (pr2 : Exa Z h0 a_STOCK oS19) (pr3 : Sta Z h0 oS5 oS29 oS6 (.ref a_LONGEST_FIRST)) (pr4 : Exa Z h0 a_LONGEST_FIRST oS21) (pr5 : Sta Z h0 oS19 "TRIM" oS28 (.ref a_TRIM)) (pr6 : Exa Z h0 a_TRIM oS19) (pr7 : Fld Z h0 a_TRIM "java/lang/Enum" "ordinal" "I" (.int (1 : Int32))) (pr8 : Fld Z h0 a_STOCK "java/lang/Enum" "ordinal" "I" (.int (0 : Int32))) (pr9 : own_D a_TRIM a_STOCK) (pr10 : Sta Z h0 oS24 "cache" oS25 (.ref cal)) (pr11 : own_CacheV Z h0 cal n0) :
    MetFree l x (head1 (Jvm.Cond.code x code maxLocals ret :: ws) room_1) (fun a U => a = #[(.int p0), (.int p1), (.int p2), (.int p3), (.int p4)] ∧ Z.Warmed39 U.vm ∧ U.heap = h0) (fun _ _ _ _ _ => True) (fun _ U o U' => ∃ v L, o = .returned v ∧ Qrm0 Z p0 p1 p2 p3 p4 a_STOCK a_LONGEST_FIRST a_TRIM cal h0 n0 v U'.heap L ∧ FrameEnd U o U' L 64 256) := by
  refine MetFree.of_bodySF (plainFor_of_name pn_0) hisR ?_
  intro p e s m args below meth c s₁ Bd hml0 hP0 hK
  obtain ⟨rfl, hZ, hh⟩ := hP0
  have hx := Bd.exec
  have hby := Bd.bytes
  have hml : c.maxLocals = 19 := hml0
  have hown : s.vm.findClass "com/example/millwright/millwright/cut/ObjectiveLeastStockValuePinLaw" = some m.cls := findClass_of_methodNamed Bd.named
  have hnm := (name_of_methodNamed Bd.named Bd.method).1
  have X0 : Stand p l e room_1 s m #[(.int p0), (.int p1), (.int p2), (.int p3), (.int p4)] below meth c s₁ [] 0 0 := Stand.of_body Bd
  have e0 : s₁.heap = h0 := by rw [← hh, Bd.state]; rfl
  have N0 := Fr.nil n0
  refine own_fin (st' := s₁.setTop (mkF m 0 #[oi p0, oi p1, oi p2, oi p3, oi p4, .unset, .unset, .unset, .unset, .unset, .unset, .unset, .unset, .unset, .unset, .unset, .unset, .unset, .unset] [])) (fun _ k => castTop (ef_rm0 m p0 p1 p2 p3 p4) k) (fun P hP => ?_)
  have lt_a_STOCK : @LT.lt Nat _ a_STOCK h0.size := pr2.lt
  have lt_a_LONGEST_FIRST : @LT.lt Nat _ a_LONGEST_FIRST h0.size := pr4.lt
  have lt_a_TRIM : @LT.lt Nat _ a_TRIM h0.size := pr6.lt
  have lt_cal : @LT.lt Nat _ cal h0.size := own_CacheV_lt pr11
  have J15_1 : ∀ (Tj1 : State) (lj1 : List Loc) (ob : Addr) (Xj1 : Stand p l e room_1 s m #[(.int p0), (.int p1), (.int p2), (.int p3), (.int p4)] below meth c Tj1 lj1 0 0) (ej1 : Tj1.heap = h0) (Nj1 : Fr n0 lj1) (hob : a_STOCK = ob ∨ a_TRIM = ob), own_Go p.tables e below P (Tj1.setTop (mkF m 15 #[oi p0, oi p1, oi p2, oi p3, oi p4, .unset, .unset, .unset, .unset, .unset, .unset, .unset, .unset, .unset, .unset, .unset, .unset, .unset, .unset] [(.ref ob)])) := by as_aux_lemma =>
    intro Tj1 lj1 ob Xj1 ej1 Nj1 hob
    refine own_go (st' := Tj1.setTop (mkF m 17 #[oi p0, oi p1, oi p2, oi p3, oi p4, oR ob, .unset, .unset, .unset, .unset, .unset, .unset, .unset, .unset, .unset, .unset, .unset, .unset, .unset] [])) (fun _ k => XS.astore Xj1.here hx rfl (hb hby at_15) rfl rfl (l' := #[oi p0, oi p1, oi p2, oi p3, oi p4, oR ob, .unset, .unset, .unset, .unset, .unset, .unset, .unset, .unset, .unset, .unset, .unset, .unset, .unset]) rfl k) ?_
    refine own_go (st' := Tj1.setTop (mkF m 18 #[oi p0, oi p1, oi p2, oi p3, oi p4, oR ob, .unset, .unset, .unset, .unset, .unset, .unset, .unset, .unset, .unset, .unset, .unset, .unset, .unset] [(.int p1)])) (fun _ k => XS.iloadN Xj1.here hx rfl (hb hby at_17) rfl k) ?_
    refine own_go (st' := Tj1.setTop (mkF m 20 #[oi p0, oi p1, oi p2, oi p3, oi p4, oR ob, .unset, .unset, .unset, .unset, .unset, .unset, .unset, .unset, .unset, .unset, .unset, .unset, .unset] [(.int (1048575 : Int32)), (.int p1)])) (Xj1.ldcInt hx hown (mvT hZ (own_hw hw 3)) (g := (mkF m 18 #[oi p0, oi p1, oi p2, oi p3, oi p4, oR ob, .unset, .unset, .unset, .unset, .unset, .unset, .unset, .unset, .unset, .unset, .unset, .unset, .unset] [(.int p1)])) rfl (hb hby at_18)) ?_
    refine own_go (st' := Tj1.setTop (mkF m 21 #[oi p0, oi p1, oi p2, oi p3, oi p4, oR ob, .unset, .unset, .unset, .unset, .unset, .unset, .unset, .unset, .unset, .unset, .unset, .unset, .unset] [(.int (p1 &&& (1048575 : Int32)))])) (fun _ k => XS.iand Xj1.here hx rfl (hb hby at_20) rfl k) ?_
    refine own_go (st' := Tj1.setTop (mkF m 22 #[oi p0, oi p1, oi p2, oi p3, oi p4, oR ob, .unset, .unset, .unset, .unset, .unset, .unset, .unset, .unset, .unset, .unset, .unset, .unset, .unset] [(.long (p1 &&& (1048575 : Int32)).toInt64)])) (fun _ k => XS.i2l Xj1.here hx rfl (hb hby at_21) rfl k) ?_
    refine own_go (st' := Tj1.setTop (mkF m 23 #[oi p0, oi p1, oi p2, oi p3, oi p4, oR ob, .unset, .unset, .unset, .unset, .unset, .unset, .unset, .unset, .unset, .unset, .unset, .unset, .unset] [(.long (1 : Int64)), (.long (p1 &&& (1048575 : Int32)).toInt64)])) (fun _ k => XS.lconst Xj1.here hx rfl (hb hby at_22) k) ?_
    obtain ⟨m6, hm6⟩ : ∃ z : Int64, z = ((p1 &&& (1048575 : Int32)).toInt64 + (1 : Int64)) := ⟨_, rfl⟩
    refine own_go (st' := Tj1.setTop (mkF m 24 #[oi p0, oi p1, oi p2, oi p3, oi p4, oR ob, .unset, .unset, .unset, .unset, .unset, .unset, .unset, .unset, .unset, .unset, .unset, .unset, .unset] [(.long m6)])) (fun _ k => XS.ladd Xj1.here hx rfl (hb hby at_23) rfl (by rw [hm6] at k; exact k)) ?_
    have hb_m6 := own_pl1 p1 (1048575 : Int32) (by decide)
    rw [← hm6, show (1048575 : Int32).toInt = 1048575 from rfl] at hb_m6
    refine own_go (st' := Tj1.setTop (mkF m 26 #[oi p0, oi p1, oi p2, oi p3, oi p4, oR ob, oj m6, .second, .unset, .unset, .unset, .unset, .unset, .unset, .unset, .unset, .unset, .unset, .unset] [])) (fun _ k => XS.lstore Xj1.here hx rfl (hb hby at_24) rfl (l' := #[oi p0, oi p1, oi p2, oi p3, oi p4, oR ob, oj m6, .second, .unset, .unset, .unset, .unset, .unset, .unset, .unset, .unset, .unset, .unset, .unset]) rfl k) ?_
    refine own_go (st' := Tj1.setTop (mkF m 27 #[oi p0, oi p1, oi p2, oi p3, oi p4, oR ob, oj m6, .second, .unset, .unset, .unset, .unset, .unset, .unset, .unset, .unset, .unset, .unset, .unset] [(.int p2)])) (fun _ k => XS.iloadN Xj1.here hx rfl (hb hby at_26) rfl k) ?_
    refine own_go (st' := Tj1.setTop (mkF m 30 #[oi p0, oi p1, oi p2, oi p3, oi p4, oR ob, oj m6, .second, .unset, .unset, .unset, .unset, .unset, .unset, .unset, .unset, .unset, .unset, .unset] [(.int (4095 : Int32)), (.int p2)])) (fun _ k => XS.sipush Xj1.here hx rfl (hb hby at_27) k) ?_
    refine own_go (st' := Tj1.setTop (mkF m 31 #[oi p0, oi p1, oi p2, oi p3, oi p4, oR ob, oj m6, .second, .unset, .unset, .unset, .unset, .unset, .unset, .unset, .unset, .unset, .unset, .unset] [(.int (p2 &&& (4095 : Int32)))])) (fun _ k => XS.iand Xj1.here hx rfl (hb hby at_30) rfl k) ?_
    refine own_go (st' := Tj1.setTop (mkF m 32 #[oi p0, oi p1, oi p2, oi p3, oi p4, oR ob, oj m6, .second, .unset, .unset, .unset, .unset, .unset, .unset, .unset, .unset, .unset, .unset, .unset] [(.long (p2 &&& (4095 : Int32)).toInt64)])) (fun _ k => XS.i2l Xj1.here hx rfl (hb hby at_31) rfl k) ?_
    refine own_go (st' := Tj1.setTop (mkF m 33 #[oi p0, oi p1, oi p2, oi p3, oi p4, oR ob, oj m6, .second, .unset, .unset, .unset, .unset, .unset, .unset, .unset, .unset, .unset, .unset, .unset] [(.long (1 : Int64)), (.long (p2 &&& (4095 : Int32)).toInt64)])) (fun _ k => XS.lconst Xj1.here hx rfl (hb hby at_32) k) ?_
    obtain ⟨m8, hm8⟩ : ∃ z : Int64, z = ((p2 &&& (4095 : Int32)).toInt64 + (1 : Int64)) := ⟨_, rfl⟩
    refine own_go (st' := Tj1.setTop (mkF m 34 #[oi p0, oi p1, oi p2, oi p3, oi p4, oR ob, oj m6, .second, .unset, .unset, .unset, .unset, .unset, .unset, .unset, .unset, .unset, .unset, .unset] [(.long m8)])) (fun _ k => XS.ladd Xj1.here hx rfl (hb hby at_33) rfl (by rw [hm8] at k; exact k)) ?_
    have hb_m8 := own_pl1 p2 (4095 : Int32) (by decide)
    rw [← hm8, show (4095 : Int32).toInt = 4095 from rfl] at hb_m8
    refine own_go (st' := Tj1.setTop (mkF m 36 #[oi p0, oi p1, oi p2, oi p3, oi p4, oR ob, oj m6, .second, oj m8, .second, .unset, .unset, .unset, .unset, .unset, .unset, .unset, .unset, .unset] [])) (fun _ k => XS.lstore Xj1.here hx rfl (hb hby at_34) rfl (l' := #[oi p0, oi p1, oi p2, oi p3, oi p4, oR ob, oj m6, .second, oj m8, .second, .unset, .unset, .unset, .unset, .unset, .unset, .unset, .unset, .unset]) rfl k) ?_
    refine own_go (st' := Tj1.setTop (mkF m 37 #[oi p0, oi p1, oi p2, oi p3, oi p4, oR ob, oj m6, .second, oj m8, .second, .unset, .unset, .unset, .unset, .unset, .unset, .unset, .unset, .unset] [(.int p3)])) (fun _ k => XS.iloadN Xj1.here hx rfl (hb hby at_36) rfl k) ?_
    refine own_go (st' := Tj1.setTop (mkF m 39 #[oi p0, oi p1, oi p2, oi p3, oi p4, oR ob, oj m6, .second, oj m8, .second, .unset, .unset, .unset, .unset, .unset, .unset, .unset, .unset, .unset] [(.int (65535 : Int32)), (.int p3)])) (Xj1.ldcInt hx hown (mvT hZ (own_hw hw 4)) (g := (mkF m 37 #[oi p0, oi p1, oi p2, oi p3, oi p4, oR ob, oj m6, .second, oj m8, .second, .unset, .unset, .unset, .unset, .unset, .unset, .unset, .unset, .unset] [(.int p3)])) rfl (hb hby at_37)) ?_
    refine own_go (st' := Tj1.setTop (mkF m 40 #[oi p0, oi p1, oi p2, oi p3, oi p4, oR ob, oj m6, .second, oj m8, .second, .unset, .unset, .unset, .unset, .unset, .unset, .unset, .unset, .unset] [(.int (p3 &&& (65535 : Int32)))])) (fun _ k => XS.iand Xj1.here hx rfl (hb hby at_39) rfl k) ?_
    refine own_go (st' := Tj1.setTop (mkF m 41 #[oi p0, oi p1, oi p2, oi p3, oi p4, oR ob, oj m6, .second, oj m8, .second, .unset, .unset, .unset, .unset, .unset, .unset, .unset, .unset, .unset] [(.long (p3 &&& (65535 : Int32)).toInt64)])) (fun _ k => XS.i2l Xj1.here hx rfl (hb hby at_40) rfl k) ?_
    refine own_go (st' := Tj1.setTop (mkF m 42 #[oi p0, oi p1, oi p2, oi p3, oi p4, oR ob, oj m6, .second, oj m8, .second, .unset, .unset, .unset, .unset, .unset, .unset, .unset, .unset, .unset] [(.long (1 : Int64)), (.long (p3 &&& (65535 : Int32)).toInt64)])) (fun _ k => XS.lconst Xj1.here hx rfl (hb hby at_41) k) ?_
    obtain ⟨m10, hm10⟩ : ∃ z : Int64, z = ((p3 &&& (65535 : Int32)).toInt64 + (1 : Int64)) := ⟨_, rfl⟩
    refine own_go (st' := Tj1.setTop (mkF m 43 #[oi p0, oi p1, oi p2, oi p3, oi p4, oR ob, oj m6, .second, oj m8, .second, .unset, .unset, .unset, .unset, .unset, .unset, .unset, .unset, .unset] [(.long m10)])) (fun _ k => XS.ladd Xj1.here hx rfl (hb hby at_42) rfl (by rw [hm10] at k; exact k)) ?_
    have hb_m10 := own_pl1 p3 (65535 : Int32) (by decide)
    rw [← hm10, show (65535 : Int32).toInt = 65535 from rfl] at hb_m10
    refine own_go (st' := Tj1.setTop (mkF m 45 #[oi p0, oi p1, oi p2, oi p3, oi p4, oR ob, oj m6, .second, oj m8, .second, oj m10, .second, .unset, .unset, .unset, .unset, .unset, .unset, .unset] [])) (fun _ k => XS.lstore Xj1.here hx rfl (hb hby at_43) rfl (l' := #[oi p0, oi p1, oi p2, oi p3, oi p4, oR ob, oj m6, .second, oj m8, .second, oj m10, .second, .unset, .unset, .unset, .unset, .unset, .unset, .unset]) rfl k) ?_
    refine own_go (st' := Tj1.setTop (mkF m 47 #[oi p0, oi p1, oi p2, oi p3, oi p4, oR ob, oj m6, .second, oj m8, .second, oj m10, .second, .unset, .unset, .unset, .unset, .unset, .unset, .unset] [(.int p4)])) (fun _ k => XS.iload Xj1.here hx rfl (hb hby at_45) rfl k) ?_
    refine own_go (st' := Tj1.setTop (mkF m 49 #[oi p0, oi p1, oi p2, oi p3, oi p4, oR ob, oj m6, .second, oj m8, .second, oj m10, .second, .unset, .unset, .unset, .unset, .unset, .unset, .unset] [(.int (2147483647 : Int32)), (.int p4)])) (Xj1.ldcInt hx hown (mvT hZ (own_hw hw 5)) (g := (mkF m 47 #[oi p0, oi p1, oi p2, oi p3, oi p4, oR ob, oj m6, .second, oj m8, .second, oj m10, .second, .unset, .unset, .unset, .unset, .unset, .unset, .unset] [(.int p4)])) rfl (hb hby at_47)) ?_
    refine own_go (st' := Tj1.setTop (mkF m 50 #[oi p0, oi p1, oi p2, oi p3, oi p4, oR ob, oj m6, .second, oj m8, .second, oj m10, .second, .unset, .unset, .unset, .unset, .unset, .unset, .unset] [(.int (p4 &&& (2147483647 : Int32)))])) (fun _ k => XS.iand Xj1.here hx rfl (hb hby at_49) rfl k) ?_
    refine own_go (st' := Tj1.setTop (mkF m 51 #[oi p0, oi p1, oi p2, oi p3, oi p4, oR ob, oj m6, .second, oj m8, .second, oj m10, .second, .unset, .unset, .unset, .unset, .unset, .unset, .unset] [(.long (p4 &&& (2147483647 : Int32)).toInt64)])) (fun _ k => XS.i2l Xj1.here hx rfl (hb hby at_50) rfl k) ?_
    refine own_go (st' := Tj1.setTop (mkF m 53 #[oi p0, oi p1, oi p2, oi p3, oi p4, oR ob, oj m6, .second, oj m8, .second, oj m10, .second, .unset, .unset, .unset, .unset, .unset, .unset, .unset] [(.long m8), (.long (p4 &&& (2147483647 : Int32)).toInt64)])) (fun _ k => XS.lload Xj1.here hx rfl (hb hby at_51) rfl k) ?_
    refine own_go (st' := Tj1.setTop (mkF m 54 #[oi p0, oi p1, oi p2, oi p3, oi p4, oR ob, oj m6, .second, oj m8, .second, oj m10, .second, .unset, .unset, .unset, .unset, .unset, .unset, .unset] [(.long ((p4 &&& (2147483647 : Int32)).toInt64 % m8))])) (fun _ k => XS.lrem Xj1.here hx rfl (hb hby at_53) rfl (own_nz hb_m8.1) (by rw [lrem_mod]; exact k)) ?_
    obtain ⟨m12, hm12⟩ : ∃ z : Int64, z = ((p4 &&& (2147483647 : Int32)).toInt64 % m8) := ⟨_, rfl⟩
    rw [← hm12]
    have hb_m12 : 0 ≤ m12.toInt ∧ m12.toInt < m8.toInt := by rw [hm12]; exact own_rem (own_i2ln _) hb_m8.1
    obtain ⟨hlm, hg_L, hnl, hLb⟩ := own_le hb_m6.1 hb_m6.2 hb_m8.1 hb_m8.2
    have hg_m6 := own_ge1 hb_m6.1
    have hg_m10 := own_ge1 hb_m10.1
    have hnc : own_nn ((0 : Int64) + m10) := by rw [Int64.zero_add]; unfold own_nn; omega
    have hnc0 : own_nn ((0 : Int64) + ((0 : Int64) + m10)) := by rw [Int64.zero_add]; exact hnc
    have hprl : own_pr ((0 : Int64) + ((0 : Int64) + m10)) (m6 * m8) := by rw [Int64.zero_add, Int64.zero_add]; exact (own_prb (p := m10) (q := m6 * m8) (by omega) hb_m10.2 hnl hLb (by decide)).1
    have hn6 : own_nn m6 := by unfold own_nn; omega
    have hn8 : own_nn m8 := by unfold own_nn; omega
    have hn12 : own_nn m12 := hb_m12.1
    obtain ⟨hpr8, hnp8⟩ := own_prb (p := m8) (q := m6) hn8 hb_m8.2 hn6 hb_m6.2 (by decide)
    obtain ⟨hpr12, hnp12⟩ := own_prb (p := m12) (q := m6) hn12 (show m12.toInt ≤ 4096 by omega) hn6 hb_m6.2 (by decide)
    refine own_go (st' := Tj1.setTop (mkF m 56 #[oi p0, oi p1, oi p2, oi p3, oi p4, oR ob, oj m6, .second, oj m8, .second, oj m10, .second, oj m12, .second, .unset, .unset, .unset, .unset, .unset] [])) (fun _ k => XS.lstore Xj1.here hx rfl (hb hby at_54) rfl (l' := #[oi p0, oi p1, oi p2, oi p3, oi p4, oR ob, oj m6, .second, oj m8, .second, oj m10, .second, oj m12, .second, .unset, .unset, .unset, .unset, .unset]) rfl k) ?_
    obtain ⟨T2, h2, X2, e2, E2, A2, D2, -, st2⟩ := newO Xj1 hx hZ hown (own_hw hw 6) (own_hw hw 7) (own_hw hw 8) ej1 (g := (mkF m 56 #[oi p0, oi p1, oi p2, oi p3, oi p4, oR ob, oj m6, .second, oj m8, .second, oj m10, .second, oj m12, .second, .unset, .unset, .unset, .unset, .unset] [])) rfl (hb hby at_56) (by decide) (by decide)
    obtain ⟨b2, g2⟩ : ∃ z, z = h0.size := ⟨_, rfl⟩
    rw [← g2] at A2 D2 st2
    have sz2 : h0.size ≤ h2.size := E2.1
    have lt2 : @LT.lt Nat _ b2 h2.size := A2.lt
    have f3 : Fld Z h2 b2 oS5 "stock" oS13 .null := D2 (Or.inr (own_hw hw 37)) (ty := (.object oS27)) (by decide)
    have f4 : Fld Z h2 b2 oS5 "counts" oS13 .null := D2 (Or.inr (own_hw hw 39)) (ty := (.object oS27)) (by decide)
    refine own_go (st' := T2.setTop (mkF m 59 #[oi p0, oi p1, oi p2, oi p3, oi p4, oR ob, oj m6, .second, oj m8, .second, oj m10, .second, oj m12, .second, .unset, .unset, .unset, .unset, .unset] [(.ref b2)])) (st2) ?_
    refine own_go (st' := T2.setTop (mkF m 60 #[oi p0, oi p1, oi p2, oi p3, oi p4, oR ob, oj m6, .second, oj m8, .second, oj m10, .second, oj m12, .second, .unset, .unset, .unset, .unset, .unset] [(.ref b2), (.ref b2)])) (fun _ k => XS.dup X2.here hx rfl (hb hby at_59) rfl rfl k) ?_
    have c6 : Sta Z h2 oS5 oS29 oS6 (.ref a_LONGEST_FIRST) := (pr3.ext E2)
    obtain ⟨_, _, ⟨T5, LC5, kC5, nC5⟩, -, X5, ⟨Lc5, hQ5, lq5, yq5, zq5⟩, st5⟩ := X2.specialBack hx (y := oM51) rfl hown (mvT hZ (own_hw hw 9)) (mvT hZ (own_hw hw 10)) (mvT hZ (own_hw hw 11)) (by decide) (backOf (W := 1) (rm1 l Z a0 hw [] b2 a_LONGEST_FIRST h2 n0 (by omega) A2 f3 f4 c6 (by omega)) hZ (own_hw hw 11) (own_hw hw 8) (by decide) (by decide)) (g := (mkF m 60 #[oi p0, oi p1, oi p2, oi p3, oi p4, oR ob, oj m6, .second, oj m8, .second, oj m10, .second, oj m12, .second, .unset, .unset, .unset, .unset, .unset] [(.ref b2), (.ref b2)])) rfl (by rw [hml]; rfl) (Steps.refl _) (a := b2) (argsL := []) (rest := [(.ref b2)]) (lenOf pd_0 rfl) rfl (by show 2 * 0 + _ ≤ _; exact Nat.le_of_eq rfl) (hb hby at_60) (fun _ _ => ⟨rfl, e2, (by decide : 1 + 2 ≤ _), (by decide : 2 + 18 ≤ _)⟩)
    dsimp only [Pt.U, Pt.locs, Pt.cells, Pt.slots] at X5 lq5 yq5 zq5 st5 hQ5
    subst lq5 yq5 zq5
    obtain ⟨h5, e5⟩ : ∃ z, T5.heap = z := ⟨_, rfl⟩
    rw [e5] at hQ5
    obtain ⟨ms_5, mc_5, rfl, Nq5, K5, g5_0, g5_1, g5_2, g5_3, g5_4, g5_5, g5_6, g5_7, g5_8, g5_9, g5_10, g5_11, g5_12, g5_13, g5_14, g5_15, g5_16, g5_17, g5_18, g5_19⟩ := hQ5
    have sz5 : h2.size ≤ h5.size := K5.1
    have N5 := Fr.app Nj1 Nq5
    have lt5_1 : @LT.lt Nat _ b2 h5.size := g5_0.lt
    have lt5_2 : @LT.lt Nat _ ms_5 h5.size := g5_3.lt
    have lt5_3 : @LT.lt Nat _ mc_5 h5.size := g5_10.lt
    refine own_go (st' := T5.setTop (mkF m 63 #[oi p0, oi p1, oi p2, oi p3, oi p4, oR ob, oj m6, .second, oj m8, .second, oj m10, .second, oj m12, .second, .unset, .unset, .unset, .unset, .unset] [(.ref b2)])) (fun _ k => st5.trans k) ?_
    refine own_go (st' := T5.setTop (mkF m 65 #[oi p0, oi p1, oi p2, oi p3, oi p4, oR ob, oj m6, .second, oj m8, .second, oj m10, .second, oj m12, .second, .unset, .unset, .unset, .unset, .unset] [(.long m6), (.ref b2)])) (fun _ k => XS.lload X5.here hx rfl (hb hby at_63) rfl k) ?_
    refine own_go (st' := T5.setTop (mkF m 67 #[oi p0, oi p1, oi p2, oi p3, oi p4, oR ob, oj m6, .second, oj m8, .second, oj m10, .second, oj m12, .second, .unset, .unset, .unset, .unset, .unset] [(.long m8), (.long m6), (.ref b2)])) (fun _ k => XS.lload X5.here hx rfl (hb hby at_65) rfl k) ?_
    refine own_go (st' := T5.setTop (mkF m 68 #[oi p0, oi p1, oi p2, oi p3, oi p4, oR ob, oj m6, .second, oj m8, .second, oj m10, .second, oj m12, .second, .unset, .unset, .unset, .unset, .unset] [(.long (m6 * m8)), (.ref b2)])) (fun _ k => XS.lmul X5.here hx rfl (hb hby at_67) rfl k) ?_
    have c8 : Exa Z h5 a_LONGEST_FIRST oS21 := ((pr4.ext E2).keep K5)
    have c9 : Sta Z h5 oS24 "cache" oS25 (.ref cal) := (own_sta_keep (pr10.ext E2) K5 (allS (P := fun x => ∀ c : Cell, h2[x]? = some c → c.vm.isStatics = false) (own_pl_exa A2) all0))
    have c10 : own_CacheV Z h5 cal n0 := (own_CacheV_keep (own_CacheV_ext pr11 E2) K5 (allS (P := fun x => @LE.le Nat _ n0 x) (by omega) all0))
    obtain ⟨cq7, kq7, q7a, q7b, q7c⟩ := isOf hZ e5 g5_0
    obtain ⟨_, _, ⟨T7, LC7, kC7, nC7⟩, -, X7, ⟨Lc7, hQ7, lq7, yq7, zq7⟩, st7⟩ := X5.virtualBack hx (y := oM21) (z := oM21) hown (mvT hZ (own_hw hw 40)) (mvT hZ (own_hw hw 41)) (notFace_of_selects (args := #[]) (mvT hZ (own_hw hw 43))) (mvT hZ (own_hw hw 43)) (mvT hZ (own_hw hw 42)) (by decide) (backOf (W := 0) (rm5 l Z a0 hw [] b2 ms_5 a_LONGEST_FIRST cal (m6 * m8) h5 n0 (by omega) g5_0 g5_1 g5_3 g5_4 g5_5 g5_6 g5_7 g5_8 g5_9 c8 (by omega) own_nr c9 c10 hg_L) hZ (own_hw hw 44) (own_hw hw 8) (by decide) (by decide)) q7a q7c (g := (mkF m 68 #[oi p0, oi p1, oi p2, oi p3, oi p4, oR ob, oj m6, .second, oj m8, .second, oj m10, .second, oj m12, .second, .unset, .unset, .unset, .unset, .unset] [(.long (m6 * m8)), (.ref b2)])) rfl (by rw [hml]; rfl) (Steps.refl _) (argsL := [(.long (m6 * m8))]) (rest := []) (lenOf pd_36 rfl) rfl (by show 2 * 0 + _ ≤ _; exact Nat.le_of_eq rfl) (hb hby at_68) (fun _ _ => ⟨rfl, e5, (by decide : 3 + 5 ≤ _), (by decide : 20 + 10 ≤ _)⟩)
    dsimp only [Pt.U, Pt.locs, Pt.cells, Pt.slots] at X7 lq7 yq7 zq7 st7 hQ7
    subst lq7 yq7 zq7
    obtain ⟨h7, e7⟩ : ∃ z, T7.heap = z := ⟨_, rfl⟩
    rw [e7] at hQ7
    obtain ⟨ae_7, ak_7, av_7, rfl, Nq7, K7, g7_0, g7_1, g7_2, g7_3, g7_4, g7_5, g7_6, g7_7, g7_8, g7_9, g7_10, g7_11, g7_12, g7_13, g7_14, g7_15, g7_16, g7_17, g7_18, g7_19⟩ := hQ7
    have sz7 : h5.size ≤ h7.size := K7.1
    have N7 := Fr.app N5 Nq7
    have lt7_1 : @LT.lt Nat _ ms_5 h7.size := g7_0.lt
    have lt7_2 : @LT.lt Nat _ ae_7 h7.size := g7_7.lt
    have lt7_3 : @LT.lt Nat _ ak_7 h7.size := g7_13.lt
    have lt7_4 : @LT.lt Nat _ av_7 h7.size := g7_15.lt
    refine own_go (st' := T7.setTop (mkF m 71 #[oi p0, oi p1, oi p2, oi p3, oi p4, oR ob, oj m6, .second, oj m8, .second, oj m10, .second, oj m12, .second, .unset, .unset, .unset, .unset, .unset] [(.ref b2)])) (fun _ k => st7.trans k) ?_
    refine own_go (st' := T7.setTop (mkF m 73 #[oi p0, oi p1, oi p2, oi p3, oi p4, oR ob, oj m6, .second, oj m8, .second, oj m10, .second, oj m12, .second, .unset, .unset, .unset, .unset, .unset] [(.long m6), (.ref b2)])) (fun _ k => XS.lload X7.here hx rfl (hb hby at_71) rfl k) ?_
    refine own_go (st' := T7.setTop (mkF m 75 #[oi p0, oi p1, oi p2, oi p3, oi p4, oR ob, oj m6, .second, oj m8, .second, oj m10, .second, oj m12, .second, .unset, .unset, .unset, .unset, .unset] [(.long m10), (.long m6), (.ref b2)])) (fun _ k => XS.lload X7.here hx rfl (hb hby at_73) rfl k) ?_
    have c12 : Exa Z h7 b2 oS5 := (g5_0.keep K7)
    have c13 : Fld Z h7 b2 oS5 "counts" oS13 (.ref mc_5) := (g5_2.keep K7 (ninS own_nq nin0))
    have c14 : Exa Z h7 mc_5 oS0 := (g5_10.keep K7)
    have c15 : Fld Z h7 mc_5 oS0 "comparator" oS6 (.ref a_LONGEST_FIRST) := (g5_11.keep K7 (ninS own_nq nin0))
    have c16 : Fld Z h7 mc_5 oS0 "root" oS2 .null := (g5_12.keep K7 (ninS own_nq nin0))
    have c17 : Fld Z h7 mc_5 oS0 "size" "I" (.int (0 : Int32)) := (g5_13.keep K7 (ninS own_nq nin0))
    have c18 : Fld Z h7 mc_5 oS0 "modCount" "I" (.int (0 : Int32)) := (g5_14.keep K7 (ninS own_nq nin0))
    have c19 : Fld Z h7 mc_5 oS0 oS10 oS11 .null := (g5_15.keep K7 (ninS own_nq nin0))
    have c20 : Fld Z h7 mc_5 oS0 "entrySet" oS12 .null := (g5_16.keep K7 (ninS own_nq nin0))
    have c21 : Exa Z h7 a_LONGEST_FIRST oS21 := (c8.keep K7)
    have c22 : Sta Z h7 oS24 "cache" oS25 (.ref cal) := (own_sta_keep c9 K7 (allS (P := fun x => ∀ c : Cell, h5[x]? = some c → c.vm.isStatics = false) (own_pl_exa g5_3) all0))
    have c23 : own_CacheV Z h7 cal n0 := (own_CacheV_keep c10 K7 (allS (P := fun x => @LE.le Nat _ n0 x) (by omega) all0))
    obtain ⟨cq11, kq11, q11a, q11b, q11c⟩ := isOf hZ e7 c12
    obtain ⟨_, _, ⟨T11, LC11, kC11, nC11⟩, -, X11, ⟨Lc11, hQ11, lq11, yq11, zq11⟩, st11⟩ := X7.virtualBack hx (y := oM22) (z := oM22) hown (mvT hZ (own_hw hw 188)) (mvT hZ (own_hw hw 189)) (notFace_of_selects (args := #[]) (mvT hZ (own_hw hw 191))) (mvT hZ (own_hw hw 191)) (mvT hZ (own_hw hw 190)) (by decide) (backOf (W := 0) (rm26 l Z a0 hw [] b2 mc_5 a_LONGEST_FIRST cal m6 m10 h7 n0 (by omega) c12 c13 c14 c15 c16 c17 c18 c19 c20 c21 (by omega) own_nr c22 c23 hg_m6 hg_m10) hZ (own_hw hw 192) (own_hw hw 8) (by decide) (by decide)) q11a q11c (g := (mkF m 75 #[oi p0, oi p1, oi p2, oi p3, oi p4, oR ob, oj m6, .second, oj m8, .second, oj m10, .second, oj m12, .second, .unset, .unset, .unset, .unset, .unset] [(.long m10), (.long m6), (.ref b2)])) rfl (by rw [hml]; rfl) (Steps.refl _) (argsL := [(.long m6), (.long m10)]) (rest := []) (lenOf pd_17 rfl) rfl (by show 2 * 0 + _ ≤ _; exact Nat.le_of_eq rfl) (hb hby at_75) (fun _ _ => ⟨rfl, e7, (by decide : 8 + 5 ≤ _), (by decide : 30 + 10 ≤ _)⟩)
    dsimp only [Pt.U, Pt.locs, Pt.cells, Pt.slots] at X11 lq11 yq11 zq11 st11 hQ11
    subst lq11 yq11 zq11
    obtain ⟨h11, e11⟩ : ∃ z, T11.heap = z := ⟨_, rfl⟩
    rw [e11] at hQ11
    obtain ⟨ae_11, ak_11, av_11, rfl, Nq11, K11, g11_0, g11_1, g11_2, g11_3, g11_4, g11_5, g11_6, g11_7, g11_8, g11_9, g11_10, g11_11, g11_12, g11_13, g11_14, g11_15, g11_16, g11_17, g11_18, g11_19⟩ := hQ11
    have sz11 : h7.size ≤ h11.size := K11.1
    have N11 := Fr.app N7 Nq11
    have lt11_1 : @LT.lt Nat _ mc_5 h11.size := g11_0.lt
    have lt11_2 : @LT.lt Nat _ ae_11 h11.size := g11_7.lt
    have lt11_3 : @LT.lt Nat _ ak_11 h11.size := g11_13.lt
    have lt11_4 : @LT.lt Nat _ av_11 h11.size := g11_15.lt
    refine own_go (st' := T11.setTop (mkF m 78 #[oi p0, oi p1, oi p2, oi p3, oi p4, oR ob, oj m6, .second, oj m8, .second, oj m10, .second, oj m12, .second, .unset, .unset, .unset, .unset, .unset] [(.ref b2)])) (fun _ k => st11.trans k) ?_
    have c25 : Exa Z h11 b2 oS5 := (c12.keep K11)
    have c26 : Fld Z h11 b2 oS5 "stock" oS13 (.ref ms_5) := ((g5_1.keep K7 (ninS own_nq nin0)).keep K11 (ninS own_nq nin0))
    have c27 : Fld Z h11 b2 oS5 "counts" oS13 (.ref mc_5) := (c13.keep K11 (ninS own_nq nin0))
    have c28 : Exa Z h11 ms_5 oS0 := (g7_0.keep K11)
    have c29 : Fld Z h11 ms_5 oS0 "comparator" oS6 (.ref a_LONGEST_FIRST) := (g7_1.keep K11 (ninS own_nq nin0))
    have c30 : Fld Z h11 ms_5 oS0 "root" oS2 (.ref ae_7) := (g7_2.keep K11 (ninS own_nq nin0))
    have c31 : Fld Z h11 ms_5 oS0 "size" "I" (.int (1 : Int32)) := (g7_3.keep K11 (ninS own_nq nin0))
    have c32 : Fld Z h11 ms_5 oS0 "modCount" "I" (.int (1 : Int32)) := (g7_4.keep K11 (ninS own_nq nin0))
    have c33 : Fld Z h11 ms_5 oS0 oS10 oS11 .null := (g7_5.keep K11 (ninS own_nq nin0))
    have c34 : Fld Z h11 ms_5 oS0 "entrySet" oS12 .null := (g7_6.keep K11 (ninS own_nq nin0))
    have c35 : Exa Z h11 ae_7 oS1 := (g7_7.keep K11)
    have c36 : Fld Z h11 ae_7 oS1 "key" oS8 (.ref ak_7) := (g7_8.keep K11 (ninS own_nq nin0))
    have c37 : Fld Z h11 ae_7 oS1 "value" oS8 (.ref av_7) := (g7_9.keep K11 (ninS own_nq nin0))
    have c38 : Fld Z h11 ae_7 oS1 "left" oS2 .null := (g7_10.keep K11 (ninS own_nq nin0))
    have c39 : Fld Z h11 ae_7 oS1 "right" oS2 .null := (g7_11.keep K11 (ninS own_nq nin0))
    have c40 : Fld Z h11 ae_7 oS1 "parent" oS2 .null := (g7_12.keep K11 (ninS own_nq nin0))
    have c41 : Exa Z h11 ak_7 oS3 := (g7_13.keep K11)
    have c42 : Fld Z h11 ak_7 oS3 "value" "J" (.long (m6 * m8)) := (g7_14.keep K11 (ninS own_nq nin0))
    have c43 : Exa Z h11 av_7 oS3 := (g7_15.keep K11)
    have c44 : Fld Z h11 av_7 oS3 "value" "J" (.long (9223372036854775807 : Int64)) := (g7_16.keep K11 (ninS own_nq nin0))
    obtain ⟨cq24, kq24, q24a, q24b, q24c⟩ := isOf hZ e11 c25
    obtain ⟨_, _, ⟨T24, LC24, kC24, nC24⟩, -, X24, ⟨Lc24, hQ24, lq24, yq24, zq24⟩, st24⟩ := X11.virtualBack hx (y := oM38) (z := oM38) hown (mvT hZ (own_hw hw 193)) (mvT hZ (own_hw hw 194)) (notFace_of_selects (args := #[]) (mvT hZ (own_hw hw 196))) (mvT hZ (own_hw hw 196)) (mvT hZ (own_hw hw 195)) (by decide) (backOfWith (W := 0) (rm27 l Z a0 hw [] b2 ms_5 mc_5 a_LONGEST_FIRST ae_7 ae_11 ak_7 av_7 ak_11 av_11 (m6 * m8) m6 ((0 : Int64) + m10) h11 n0 (by omega) c25 c26 c27 c28 c29 c30 c31 c32 c33 c34 c35 c36 c37 c38 c39 c40 c41 c42 c43 c44 g11_0 g11_1 g11_2 g11_3 g11_4 g11_5 g11_6 g11_7 g11_8 g11_9 g11_10 g11_11 g11_12 g11_13 g11_14 g11_15 g11_16 (by omega) (by omega) (by omega) (by omega) own_nr own_nr own_nr own_nr own_nr own_nr own_nr own_nr own_nr own_nr own_nr own_nr own_nr own_nr own_nr hlm hnc hnc0 hnl hprl) hZ (own_hw hw 197) (own_hw hw 8) (by decide) (by decide)) q24a q24c (g := (mkF m 78 #[oi p0, oi p1, oi p2, oi p3, oi p4, oR ob, oj m6, .second, oj m8, .second, oj m10, .second, oj m12, .second, .unset, .unset, .unset, .unset, .unset] [(.ref b2)])) rfl (by rw [hml]; rfl) (Steps.refl _) (argsL := []) (rest := []) (lenOf pd_37 rfl) rfl (by show 2 * 0 + _ ≤ _; exact Nat.le_of_eq rfl) (hb hby at_78) (fun _ _ => ⟨rfl, e11, (by decide : 13 + 13 ≤ _), (by decide : 40 + 28 ≤ _)⟩)
    dsimp only [Pt.U, Pt.locs, Pt.cells, Pt.slots] at X24 lq24 yq24 zq24 st24 hQ24
    subst lq24 yq24 zq24
    obtain ⟨h24, e24⟩ : ∃ z, T24.heap = z := ⟨_, rfl⟩
    rw [e24] at hQ24
    obtain ⟨ao_24, s1_24, s3_24, k1__24, k3__24, rfl, Nq24, K24, g24_0, g24_1, g24_2, g24_3, g24_4⟩ := hQ24
    have sz24 : h11.size ≤ h24.size := K24.1
    have N24 := Fr.app N11 Nq24
    have lt24_1 : @LT.lt Nat _ ao_24 h24.size := g24_0.lt
    have lt24_2 : @LT.lt Nat _ s1_24 h24.size := g24_3.lt
    have lt24_3 : @LT.lt Nat _ s3_24 h24.size := g24_4.lt
    refine own_go (st' := T24.setTop (mkF m 81 #[oi p0, oi p1, oi p2, oi p3, oi p4, oR ob, oj m6, .second, oj m8, .second, oj m10, .second, oj m12, .second, .unset, .unset, .unset, .unset, .unset] [(.ref ao_24)])) (fun _ k => st24.trans k) ?_
    refine own_go (st' := T24.setTop (mkF m 83 #[oi p0, oi p1, oi p2, oi p3, oi p4, oR ob, oj m6, .second, oj m8, .second, oj m10, .second, oj m12, .second, oR ao_24, .unset, .unset, .unset, .unset] [])) (fun _ k => XS.astore X24.here hx rfl (hb hby at_81) rfl rfl (l' := #[oi p0, oi p1, oi p2, oi p3, oi p4, oR ob, oj m6, .second, oj m8, .second, oj m10, .second, oj m12, .second, oR ao_24, .unset, .unset, .unset, .unset]) rfl k) ?_
    obtain ⟨T45, h45, X45, e45, E45, A45, D45, -, st45⟩ := newO X24 hx hZ hown (own_hw hw 431) (own_hw hw 432) (own_hw hw 433) e24 (g := (mkF m 83 #[oi p0, oi p1, oi p2, oi p3, oi p4, oR ob, oj m6, .second, oj m8, .second, oj m10, .second, oj m12, .second, oR ao_24, .unset, .unset, .unset, .unset] [])) rfl (hb hby at_83) (by decide) (by decide)
    obtain ⟨b45, g45⟩ : ∃ z, z = h24.size := ⟨_, rfl⟩
    rw [← g45] at A45 D45 st45
    have sz45 : h24.size ≤ h45.size := E45.1
    have lt45 : @LT.lt Nat _ b45 h45.size := A45.lt
    have f46 : Fld Z h45 b45 oS7 "stock" "I" (.int (0 : Int32)) := D45 (Or.inr (own_hw hw 439)) (ty := .int) (by decide)
    have f47 : Fld Z h45 b45 oS7 "counts" "[J" .null := D45 (Or.inr (own_hw hw 441)) (ty := (.array .long)) (by decide)
    have f48 : Fld Z h45 b45 oS7 "hash" "I" (.int (0 : Int32)) := D45 (Or.inr (own_hw hw 447)) (ty := .int) (by decide)
    refine own_go (st' := T45.setTop (mkF m 86 #[oi p0, oi p1, oi p2, oi p3, oi p4, oR ob, oj m6, .second, oj m8, .second, oj m10, .second, oj m12, .second, oR ao_24, .unset, .unset, .unset, .unset] [(.ref b45)])) (st45) ?_
    refine own_go (st' := T45.setTop (mkF m 87 #[oi p0, oi p1, oi p2, oi p3, oi p4, oR ob, oj m6, .second, oj m8, .second, oj m10, .second, oj m12, .second, oR ao_24, .unset, .unset, .unset, .unset] [(.ref b45), (.ref b45)])) (fun _ k => XS.dup X45.here hx rfl (hb hby at_86) rfl rfl k) ?_
    refine own_go (st' := T45.setTop (mkF m 88 #[oi p0, oi p1, oi p2, oi p3, oi p4, oR ob, oj m6, .second, oj m8, .second, oj m10, .second, oj m12, .second, oR ao_24, .unset, .unset, .unset, .unset] [(.int (0 : Int32)), (.ref b45), (.ref b45)])) (fun _ k => XS.iconst X45.here hx rfl (hb hby at_87) k) ?_
    refine own_go (st' := T45.setTop (mkF m 89 #[oi p0, oi p1, oi p2, oi p3, oi p4, oR ob, oj m6, .second, oj m8, .second, oj m10, .second, oj m12, .second, oR ao_24, .unset, .unset, .unset, .unset] [(.int (1 : Int32)), (.int (0 : Int32)), (.ref b45), (.ref b45)])) (fun _ k => XS.iconst X45.here hx rfl (hb hby at_88) k) ?_
    obtain ⟨T49, h49, k49, X49, e49, E49, A49, st49⟩ := newP X45 hx hZ (own_hw hw 323) e45 (g := (mkF m 89 #[oi p0, oi p1, oi p2, oi p3, oi p4, oR ob, oj m6, .second, oj m8, .second, oj m10, .second, oj m12, .second, oR ao_24, .unset, .unset, .unset, .unset] [(.int (1 : Int32)), (.int (0 : Int32)), (.ref b45), (.ref b45)])) rfl (hb hby at_89) rfl (by decide) (cap := 1) (by decide) (by decide) (by decide) (by decide)
    obtain ⟨b49, g49⟩ : ∃ z, z = h45.size := ⟨_, rfl⟩
    rw [← g49] at A49 st49
    have sz49 : h45.size ≤ h49.size := E49.1
    have lt49 : @LT.lt Nat _ b49 h49.size := A49.lt
    have v49 : Arv Z h49 b49 k49 .long (1 : Int32) [(.long (0 : Int64))] (.long (0 : Int64)) := (Arv.new A49 (by decide)).pad (pad_rep [] (.long (0 : Int64)) 1)
    refine own_go (st' := T49.setTop (mkF m 91 #[oi p0, oi p1, oi p2, oi p3, oi p4, oR ob, oj m6, .second, oj m8, .second, oj m10, .second, oj m12, .second, oR ao_24, .unset, .unset, .unset, .unset] [(.ref b49), (.int (0 : Int32)), (.ref b45), (.ref b45)])) (st49) ?_
    refine own_go (st' := T49.setTop (mkF m 92 #[oi p0, oi p1, oi p2, oi p3, oi p4, oR ob, oj m6, .second, oj m8, .second, oj m10, .second, oj m12, .second, oR ao_24, .unset, .unset, .unset, .unset] [(.ref b49), (.ref b49), (.int (0 : Int32)), (.ref b45), (.ref b45)])) (fun _ k => XS.dup X49.here hx rfl (hb hby at_91) rfl rfl k) ?_
    refine own_go (st' := T49.setTop (mkF m 93 #[oi p0, oi p1, oi p2, oi p3, oi p4, oR ob, oj m6, .second, oj m8, .second, oj m10, .second, oj m12, .second, oR ao_24, .unset, .unset, .unset, .unset] [(.int (0 : Int32)), (.ref b49), (.ref b49), (.int (0 : Int32)), (.ref b45), (.ref b45)])) (fun _ k => XS.iconst X49.here hx rfl (hb hby at_92) k) ?_
    refine own_go (st' := T49.setTop (mkF m 95 #[oi p0, oi p1, oi p2, oi p3, oi p4, oR ob, oj m6, .second, oj m8, .second, oj m10, .second, oj m12, .second, oR ao_24, .unset, .unset, .unset, .unset] [(.long m8), (.int (0 : Int32)), (.ref b49), (.ref b49), (.int (0 : Int32)), (.ref b45), (.ref b45)])) (fun _ k => XS.lload X49.here hx rfl (hb hby at_93) rfl k) ?_
    obtain ⟨cl50, Ar50, qc50, S50, M50, H50, G50⟩ := id v49
    have hin50 : ¬ ((0 : Int32) < 0 ∨ cl50.slots.size ≤ ((0 : Int32)).toNatClampNeg) := (inb_of S50 ⟨by decide, by decide⟩)
    obtain ⟨T50, h50, X50, e50, W50, st50⟩ := stJ X49 hx hZ e49 Ar50 (j := (0 : Int32)) hin50 (g := (mkF m 95 #[oi p0, oi p1, oi p2, oi p3, oi p4, oR ob, oj m6, .second, oj m8, .second, oj m10, .second, oj m12, .second, oR ao_24, .unset, .unset, .unset, .unset] [(.long m8), (.int (0 : Int32)), (.ref b49), (.ref b49), (.int (0 : Int32)), (.ref b45), (.ref b45)])) rfl rfl (hb hby at_95)
    have sz50 : h50.size = h49.size := W50.size
    have N50 := Fr.snoc X50 N24 (by omega)
    have v50 : Arv Z h50 b49 k49 .long (1 : Int32) [(.long m8)] (.long (0 : Int64)) := Arv.set Ar50 qc50 S50 M50 H50 G50 rfl W50 0 rfl (Nat.le_of_ble_eq_true rfl)
    refine own_go (st' := T50.setTop (mkF m 96 #[oi p0, oi p1, oi p2, oi p3, oi p4, oR ob, oj m6, .second, oj m8, .second, oj m10, .second, oj m12, .second, oR ao_24, .unset, .unset, .unset, .unset] [(.ref b49), (.int (0 : Int32)), (.ref b45), (.ref b45)])) (st50) ?_
    have c52 : Exa Z h50 b45 oS7 := ((A45.ext E49).wr W50)
    have c53 : Fld Z h50 b45 oS7 "stock" "I" (.int (0 : Int32)) := ((f46.ext E49).other W50 (Or.inl own_nq))
    have c54 : Fld Z h50 b45 oS7 "counts" "[J" .null := ((f47.ext E49).other W50 (Or.inl own_nq))
    have c55 : Fld Z h50 b45 oS7 "hash" "I" (.int (0 : Int32)) := ((f48.ext E49).other W50 (Or.inl own_nq))
    obtain ⟨_, _, ⟨T51, LC51, kC51, nC51⟩, -, X51, ⟨Lc51, hQ51, lq51, yq51, zq51⟩, st51⟩ := X50.specialBack hx (y := oM43) rfl hown (mvT hZ (own_hw hw 434)) (mvT hZ (own_hw hw 435)) (mvT hZ (own_hw hw 436)) (by decide) (backOf (W := 1) (rm56 l Z a0 hw [] b45 b49 k49 (0 : Int32) (0 : Int32) m8 h50 n0 (by omega) c52 c53 c54 c55 v50 (by omega) own_nr) hZ (own_hw hw 436) (own_hw hw 433) (by decide) (by decide)) (g := (mkF m 96 #[oi p0, oi p1, oi p2, oi p3, oi p4, oR ob, oj m6, .second, oj m8, .second, oj m10, .second, oj m12, .second, oR ao_24, .unset, .unset, .unset, .unset] [(.ref b49), (.int (0 : Int32)), (.ref b45), (.ref b45)])) rfl (by rw [hml]; rfl) (Steps.refl _) (a := b45) (argsL := [(.int (0 : Int32)), (.ref b49)]) (rest := [(.ref b45)]) (lenOf pd_38 rfl) rfl (by show 2 * 0 + _ ≤ _; exact Nat.le_of_eq rfl) (hb hby at_96) (fun _ _ => ⟨rfl, e50, (by decide : 28 + 0 ≤ _), (by decide : 72 + 0 ≤ _)⟩)
    dsimp only [Pt.U, Pt.locs, Pt.cells, Pt.slots] at X51 lq51 yq51 zq51 st51 hQ51
    subst lq51 yq51 zq51
    obtain ⟨h51, e51⟩ : ∃ z, T51.heap = z := ⟨_, rfl⟩
    rw [e51] at hQ51
    obtain ⟨rfl, Nq51, K51, g51_0, g51_1, g51_2⟩ := hQ51
    have sz51 : h50.size ≤ h51.size := K51.1
    have N51 := Fr.app N50 Nq51
    have lt51_1 : @LT.lt Nat _ b45 h51.size := g51_0.lt
    refine own_go (st' := T51.setTop (mkF m 99 #[oi p0, oi p1, oi p2, oi p3, oi p4, oR ob, oj m6, .second, oj m8, .second, oj m10, .second, oj m12, .second, oR ao_24, .unset, .unset, .unset, .unset] [(.ref b45)])) (fun _ k => st51.trans k) ?_
    refine own_go (st' := T51.setTop (mkF m 101 #[oi p0, oi p1, oi p2, oi p3, oi p4, oR ob, oj m6, .second, oj m8, .second, oj m10, .second, oj m12, .second, oR ao_24, oR b45, .unset, .unset, .unset] [])) (fun _ k => XS.astore X51.here hx rfl (hb hby at_99) rfl rfl (l' := #[oi p0, oi p1, oi p2, oi p3, oi p4, oR ob, oj m6, .second, oj m8, .second, oj m10, .second, oj m12, .second, oR ao_24, oR b45, .unset, .unset, .unset]) rfl k) ?_
    obtain ⟨T56, h56, X56, e56, E56, A56, D56, -, st56⟩ := newO X51 hx hZ hown (own_hw hw 431) (own_hw hw 432) (own_hw hw 433) e51 (g := (mkF m 101 #[oi p0, oi p1, oi p2, oi p3, oi p4, oR ob, oj m6, .second, oj m8, .second, oj m10, .second, oj m12, .second, oR ao_24, oR b45, .unset, .unset, .unset] [])) rfl (hb hby at_101) (by decide) (by decide)
    obtain ⟨b56, g56⟩ : ∃ z, z = h51.size := ⟨_, rfl⟩
    rw [← g56] at A56 D56 st56
    have sz56 : h51.size ≤ h56.size := E56.1
    have lt56 : @LT.lt Nat _ b56 h56.size := A56.lt
    have f57 : Fld Z h56 b56 oS7 "stock" "I" (.int (0 : Int32)) := D56 (Or.inr (own_hw hw 439)) (ty := .int) (by decide)
    have f58 : Fld Z h56 b56 oS7 "counts" "[J" .null := D56 (Or.inr (own_hw hw 441)) (ty := (.array .long)) (by decide)
    have f59 : Fld Z h56 b56 oS7 "hash" "I" (.int (0 : Int32)) := D56 (Or.inr (own_hw hw 447)) (ty := .int) (by decide)
    refine own_go (st' := T56.setTop (mkF m 104 #[oi p0, oi p1, oi p2, oi p3, oi p4, oR ob, oj m6, .second, oj m8, .second, oj m10, .second, oj m12, .second, oR ao_24, oR b45, .unset, .unset, .unset] [(.ref b56)])) (st56) ?_
    refine own_go (st' := T56.setTop (mkF m 105 #[oi p0, oi p1, oi p2, oi p3, oi p4, oR ob, oj m6, .second, oj m8, .second, oj m10, .second, oj m12, .second, oR ao_24, oR b45, .unset, .unset, .unset] [(.ref b56), (.ref b56)])) (fun _ k => XS.dup X56.here hx rfl (hb hby at_104) rfl rfl k) ?_
    refine own_go (st' := T56.setTop (mkF m 106 #[oi p0, oi p1, oi p2, oi p3, oi p4, oR ob, oj m6, .second, oj m8, .second, oj m10, .second, oj m12, .second, oR ao_24, oR b45, .unset, .unset, .unset] [(.int (0 : Int32)), (.ref b56), (.ref b56)])) (fun _ k => XS.iconst X56.here hx rfl (hb hby at_105) k) ?_
    refine own_go (st' := T56.setTop (mkF m 107 #[oi p0, oi p1, oi p2, oi p3, oi p4, oR ob, oj m6, .second, oj m8, .second, oj m10, .second, oj m12, .second, oR ao_24, oR b45, .unset, .unset, .unset] [(.int (1 : Int32)), (.int (0 : Int32)), (.ref b56), (.ref b56)])) (fun _ k => XS.iconst X56.here hx rfl (hb hby at_106) k) ?_
    obtain ⟨T60, h60, k60, X60, e60, E60, A60, st60⟩ := newP X56 hx hZ (own_hw hw 323) e56 (g := (mkF m 107 #[oi p0, oi p1, oi p2, oi p3, oi p4, oR ob, oj m6, .second, oj m8, .second, oj m10, .second, oj m12, .second, oR ao_24, oR b45, .unset, .unset, .unset] [(.int (1 : Int32)), (.int (0 : Int32)), (.ref b56), (.ref b56)])) rfl (hb hby at_107) rfl (by decide) (cap := 1) (by decide) (by decide) (by decide) (by decide)
    obtain ⟨b60, g60⟩ : ∃ z, z = h56.size := ⟨_, rfl⟩
    rw [← g60] at A60 st60
    have sz60 : h56.size ≤ h60.size := E60.1
    have lt60 : @LT.lt Nat _ b60 h60.size := A60.lt
    have v60 : Arv Z h60 b60 k60 .long (1 : Int32) [(.long (0 : Int64))] (.long (0 : Int64)) := (Arv.new A60 (by decide)).pad (pad_rep [] (.long (0 : Int64)) 1)
    refine own_go (st' := T60.setTop (mkF m 109 #[oi p0, oi p1, oi p2, oi p3, oi p4, oR ob, oj m6, .second, oj m8, .second, oj m10, .second, oj m12, .second, oR ao_24, oR b45, .unset, .unset, .unset] [(.ref b60), (.int (0 : Int32)), (.ref b56), (.ref b56)])) (st60) ?_
    refine own_go (st' := T60.setTop (mkF m 110 #[oi p0, oi p1, oi p2, oi p3, oi p4, oR ob, oj m6, .second, oj m8, .second, oj m10, .second, oj m12, .second, oR ao_24, oR b45, .unset, .unset, .unset] [(.ref b60), (.ref b60), (.int (0 : Int32)), (.ref b56), (.ref b56)])) (fun _ k => XS.dup X60.here hx rfl (hb hby at_109) rfl rfl k) ?_
    refine own_go (st' := T60.setTop (mkF m 111 #[oi p0, oi p1, oi p2, oi p3, oi p4, oR ob, oj m6, .second, oj m8, .second, oj m10, .second, oj m12, .second, oR ao_24, oR b45, .unset, .unset, .unset] [(.int (0 : Int32)), (.ref b60), (.ref b60), (.int (0 : Int32)), (.ref b56), (.ref b56)])) (fun _ k => XS.iconst X60.here hx rfl (hb hby at_110) k) ?_
    refine own_go (st' := T60.setTop (mkF m 113 #[oi p0, oi p1, oi p2, oi p3, oi p4, oR ob, oj m6, .second, oj m8, .second, oj m10, .second, oj m12, .second, oR ao_24, oR b45, .unset, .unset, .unset] [(.long m12), (.int (0 : Int32)), (.ref b60), (.ref b60), (.int (0 : Int32)), (.ref b56), (.ref b56)])) (fun _ k => XS.lload X60.here hx rfl (hb hby at_111) rfl k) ?_
    obtain ⟨cl61, Ar61, qc61, S61, M61, H61, G61⟩ := id v60
    have hin61 : ¬ ((0 : Int32) < 0 ∨ cl61.slots.size ≤ ((0 : Int32)).toNatClampNeg) := (inb_of S61 ⟨by decide, by decide⟩)
    obtain ⟨T61, h61, X61, e61, W61, st61⟩ := stJ X60 hx hZ e60 Ar61 (j := (0 : Int32)) hin61 (g := (mkF m 113 #[oi p0, oi p1, oi p2, oi p3, oi p4, oR ob, oj m6, .second, oj m8, .second, oj m10, .second, oj m12, .second, oR ao_24, oR b45, .unset, .unset, .unset] [(.long m12), (.int (0 : Int32)), (.ref b60), (.ref b60), (.int (0 : Int32)), (.ref b56), (.ref b56)])) rfl rfl (hb hby at_113)
    have sz61 : h61.size = h60.size := W61.size
    have N61 := Fr.snoc X61 N51 (by omega)
    have v61 : Arv Z h61 b60 k60 .long (1 : Int32) [(.long m12)] (.long (0 : Int64)) := Arv.set Ar61 qc61 S61 M61 H61 G61 rfl W61 0 rfl (Nat.le_of_ble_eq_true rfl)
    refine own_go (st' := T61.setTop (mkF m 114 #[oi p0, oi p1, oi p2, oi p3, oi p4, oR ob, oj m6, .second, oj m8, .second, oj m10, .second, oj m12, .second, oR ao_24, oR b45, .unset, .unset, .unset] [(.ref b60), (.int (0 : Int32)), (.ref b56), (.ref b56)])) (st61) ?_
    have c63 : Exa Z h61 b56 oS7 := ((A56.ext E60).wr W61)
    have c64 : Fld Z h61 b56 oS7 "stock" "I" (.int (0 : Int32)) := ((f57.ext E60).other W61 (Or.inl own_nq))
    have c65 : Fld Z h61 b56 oS7 "counts" "[J" .null := ((f58.ext E60).other W61 (Or.inl own_nq))
    have c66 : Fld Z h61 b56 oS7 "hash" "I" (.int (0 : Int32)) := ((f59.ext E60).other W61 (Or.inl own_nq))
    obtain ⟨_, _, ⟨T62, LC62, kC62, nC62⟩, -, X62, ⟨Lc62, hQ62, lq62, yq62, zq62⟩, st62⟩ := X61.specialBack hx (y := oM43) rfl hown (mvT hZ (own_hw hw 434)) (mvT hZ (own_hw hw 435)) (mvT hZ (own_hw hw 436)) (by decide) (backOf (W := 1) (rm56 l Z a0 hw [] b56 b60 k60 (0 : Int32) (0 : Int32) m12 h61 n0 (by omega) c63 c64 c65 c66 v61 (by omega) own_nr) hZ (own_hw hw 436) (own_hw hw 433) (by decide) (by decide)) (g := (mkF m 114 #[oi p0, oi p1, oi p2, oi p3, oi p4, oR ob, oj m6, .second, oj m8, .second, oj m10, .second, oj m12, .second, oR ao_24, oR b45, .unset, .unset, .unset] [(.ref b60), (.int (0 : Int32)), (.ref b56), (.ref b56)])) rfl (by rw [hml]; rfl) (Steps.refl _) (a := b56) (argsL := [(.int (0 : Int32)), (.ref b60)]) (rest := [(.ref b56)]) (lenOf pd_38 rfl) rfl (by show 2 * 0 + _ ≤ _; exact Nat.le_of_eq rfl) (hb hby at_114) (fun _ _ => ⟨rfl, e61, (by decide : 30 + 0 ≤ _), (by decide : 76 + 0 ≤ _)⟩)
    dsimp only [Pt.U, Pt.locs, Pt.cells, Pt.slots] at X62 lq62 yq62 zq62 st62 hQ62
    subst lq62 yq62 zq62
    obtain ⟨h62, e62⟩ : ∃ z, T62.heap = z := ⟨_, rfl⟩
    rw [e62] at hQ62
    obtain ⟨rfl, Nq62, K62, g62_0, g62_1, g62_2⟩ := hQ62
    have sz62 : h61.size ≤ h62.size := K62.1
    have N62 := Fr.app N61 Nq62
    have lt62_1 : @LT.lt Nat _ b56 h62.size := g62_0.lt
    refine own_go (st' := T62.setTop (mkF m 117 #[oi p0, oi p1, oi p2, oi p3, oi p4, oR ob, oj m6, .second, oj m8, .second, oj m10, .second, oj m12, .second, oR ao_24, oR b45, .unset, .unset, .unset] [(.ref b56)])) (fun _ k => st62.trans k) ?_
    refine own_go (st' := T62.setTop (mkF m 119 #[oi p0, oi p1, oi p2, oi p3, oi p4, oR ob, oj m6, .second, oj m8, .second, oj m10, .second, oj m12, .second, oR ao_24, oR b45, oR b56, .unset, .unset] [])) (fun _ k => XS.astore X62.here hx rfl (hb hby at_117) rfl rfl (l' := #[oi p0, oi p1, oi p2, oi p3, oi p4, oR ob, oj m6, .second, oj m8, .second, oj m10, .second, oj m12, .second, oR ao_24, oR b45, oR b56, .unset, .unset]) rfl k) ?_
    rcases hob with rfl | rfl
    · --
      refine own_go (st' := T62.setTop (mkF m 121 #[oi p0, oi p1, oi p2, oi p3, oi p4, oR a_STOCK, oj m6, .second, oj m8, .second, oj m10, .second, oj m12, .second, oR ao_24, oR b45, oR b56, .unset, .unset] [(.ref a_STOCK)])) (fun _ k => XS.aload X62.here hx rfl (hb hby at_119) rfl rfl k) ?_
      have c68 : Sta Z h62 oS19 "STOCK" oS28 (.ref a_STOCK) := (own_sta_keep ((((own_sta_keep ((((own_sta_keep (own_sta_keep (own_sta_keep (own_sta_keep (pr1.ext E2) K5 (allS (P := fun x => ∀ c : Cell, h2[x]? = some c → c.vm.isStatics = false) (own_pl_exa A2) all0)) K7 (allS (P := fun x => ∀ c : Cell, h5[x]? = some c → c.vm.isStatics = false) (own_pl_exa g5_3) all0)) K11 (allS (P := fun x => ∀ c : Cell, h7[x]? = some c → c.vm.isStatics = false) (own_pl_exa c14) all0)) K24 (allS (P := fun x => ∀ c : Cell, h11[x]? = some c → c.vm.isStatics = false) (own_pl_exa c28) (allS (P := fun x => ∀ c : Cell, h11[x]? = some c → c.vm.isStatics = false) (own_pl_exa g11_0) all0))).ext E45).ext E49).wr W50) K51 (allS (P := fun x => ∀ c : Cell, h50[x]? = some c → c.vm.isStatics = false) (own_pl_exa c52) all0)).ext E56).ext E60).wr W61) K62 (allS (P := fun x => ∀ c : Cell, h61[x]? = some c → c.vm.isStatics = false) (own_pl_exa c63) all0))
      have c69 : Exa Z h62 a_STOCK oS19 := (((((((((((((pr2.ext E2).keep K5).keep K7).keep K11).keep K24).ext E45).ext E49).wr W50).keep K51).ext E56).ext E60).wr W61).keep K62)
      obtain ⟨cq67, kq67, q67a, q67b, q67c⟩ := isOf hZ e62 c69
      obtain ⟨_, _, ⟨T67, LC67, kC67, nC67⟩, -, X67, ⟨Lc67, hQ67, lq67, yq67, zq67⟩, st67⟩ := X62.virtualBack hx (y := oM4) (z := oM4) hown (mvT hZ (own_hw hw 448)) (mvT hZ (own_hw hw 449)) (notFace_of_selects (args := #[]) (mvT hZ (own_hw hw 451))) (mvT hZ (own_hw hw 451)) (mvT hZ (own_hw hw 450)) (by decide) (backOf (W := 0) (rlv_1 l Z a0 hw [] a_STOCK h62 n0 (by omega) c68) hZ (own_hw hw 452) (own_hw hw 1) (by decide) (by decide)) q67a q67c (g := (mkF m 121 #[oi p0, oi p1, oi p2, oi p3, oi p4, oR a_STOCK, oj m6, .second, oj m8, .second, oj m10, .second, oj m12, .second, oR ao_24, oR b45, oR b56, .unset, .unset] [(.ref a_STOCK)])) rfl (by rw [hml]; rfl) (Steps.refl _) (argsL := []) (rest := []) (lenOf pd_16 rfl) rfl (by show 2 * 0 + _ ≤ _; exact Nat.le_of_eq rfl) (hb hby at_121) (fun _ _ => ⟨rfl, e62, (by decide : 30 + 0 ≤ _), (by decide : 76 + 0 ≤ _)⟩)
      dsimp only [Pt.U, Pt.locs, Pt.cells, Pt.slots] at X67 lq67 yq67 zq67 st67 hQ67
      subst lq67 yq67 zq67
      obtain ⟨rfl, Nq67, eq67⟩ := hQ67
      have N67 := Fr.app N62 Nq67
      refine own_go (st' := T67.setTop (mkF m 124 #[oi p0, oi p1, oi p2, oi p3, oi p4, oR a_STOCK, oj m6, .second, oj m8, .second, oj m10, .second, oj m12, .second, oR ao_24, oR b45, oR b56, .unset, .unset] [(.long (1 : Int64))])) (fun _ k => st67.trans k) ?_
      refine own_go (st' := T67.setTop (mkF m 126 #[oi p0, oi p1, oi p2, oi p3, oi p4, oR a_STOCK, oj m6, .second, oj m8, .second, oj m10, .second, oj m12, .second, oR ao_24, oR b45, oR b56, .val (.long (1 : Int64)), .second] [])) (fun _ k => XS.lstore X67.here hx rfl (hb hby at_124) rfl (l' := #[oi p0, oi p1, oi p2, oi p3, oi p4, oR a_STOCK, oj m6, .second, oj m8, .second, oj m10, .second, oj m12, .second, oR ao_24, oR b45, oR b56, .val (.long (1 : Int64)), .second]) rfl k) ?_
      refine own_go (st' := T67.setTop (mkF m 128 #[oi p0, oi p1, oi p2, oi p3, oi p4, oR a_STOCK, oj m6, .second, oj m8, .second, oj m10, .second, oj m12, .second, oR ao_24, oR b45, oR b56, .val (.long (1 : Int64)), .second] [(.long (1 : Int64))])) (fun _ k => XS.lload X67.here hx rfl (hb hby at_126) rfl k) ?_
      refine own_go (st' := T67.setTop (mkF m 130 #[oi p0, oi p1, oi p2, oi p3, oi p4, oR a_STOCK, oj m6, .second, oj m8, .second, oj m10, .second, oj m12, .second, oR ao_24, oR b45, oR b56, .val (.long (1 : Int64)), .second] [(.ref a_STOCK), (.long (1 : Int64))])) (fun _ k => XS.aload X67.here hx rfl (hb hby at_128) rfl rfl k) ?_
      refine own_go (st' := T67.setTop (mkF m 132 #[oi p0, oi p1, oi p2, oi p3, oi p4, oR a_STOCK, oj m6, .second, oj m8, .second, oj m10, .second, oj m12, .second, oR ao_24, oR b45, oR b56, .val (.long (1 : Int64)), .second] [(.ref ao_24), (.ref a_STOCK), (.long (1 : Int64))])) (fun _ k => XS.aload X67.here hx rfl (hb hby at_130) rfl rfl k) ?_
      refine own_go (st' := T67.setTop (mkF m 134 #[oi p0, oi p1, oi p2, oi p3, oi p4, oR a_STOCK, oj m6, .second, oj m8, .second, oj m10, .second, oj m12, .second, oR ao_24, oR b45, oR b56, .val (.long (1 : Int64)), .second] [(.ref b45), (.ref ao_24), (.ref a_STOCK), (.long (1 : Int64))])) (fun _ k => XS.aload X67.here hx rfl (hb hby at_132) rfl rfl k) ?_
      obtain ⟨cq70, kq70, q70a, q70b, q70c⟩ := isOf hZ eq67 c69
      obtain ⟨_, _, ⟨T70, LC70, kC70, nC70⟩, -, X70, ⟨Lc70, hQ70, lq70, yq70, zq70⟩, st70⟩ := X67.virtualBack hx (y := oM1) (z := oM1) hown (mvT hZ (own_hw hw 454)) (mvT hZ (own_hw hw 455)) (notFace_of_selects (args := #[]) (mvT hZ (own_hw hw 457))) (mvT hZ (own_hw hw 457)) (mvT hZ (own_hw hw 456)) (by decide) (backOf (W := 2) (rpc_1 l Z a0 hw [] a_STOCK ao_24 b45 h62 n0 (by omega) c68) hZ (own_hw hw 458) (own_hw hw 1) (by decide) (by decide)) q70a q70c (g := (mkF m 134 #[oi p0, oi p1, oi p2, oi p3, oi p4, oR a_STOCK, oj m6, .second, oj m8, .second, oj m10, .second, oj m12, .second, oR ao_24, oR b45, oR b56, .val (.long (1 : Int64)), .second] [(.ref b45), (.ref ao_24), (.ref a_STOCK), (.long (1 : Int64))])) rfl (by rw [hml]; rfl) (Steps.refl _) (argsL := [(.ref ao_24), (.ref b45)]) (rest := [(.long (1 : Int64))]) (lenOf pd_39 rfl) rfl (by show 2 * 0 + _ ≤ _; exact Nat.le_of_eq rfl) (hb hby at_134) (fun _ _ => ⟨rfl, eq67, (by decide : 30 + 0 ≤ _), (by decide : 76 + 0 ≤ _)⟩)
      dsimp only [Pt.U, Pt.locs, Pt.cells, Pt.slots] at X70 lq70 yq70 zq70 st70 hQ70
      subst lq70 yq70 zq70
      obtain ⟨rfl, Nq70, eq70⟩ := hQ70
      have N70 := Fr.app N67 Nq70
      refine own_go (st' := T70.setTop (mkF m 137 #[oi p0, oi p1, oi p2, oi p3, oi p4, oR a_STOCK, oj m6, .second, oj m8, .second, oj m10, .second, oj m12, .second, oR ao_24, oR b45, oR b56, .val (.long (1 : Int64)), .second] [(.long (1 : Int64)), (.long (1 : Int64))])) (fun _ k => st70.trans k) ?_
      refine own_go (st' := T70.setTop (mkF m 138 #[oi p0, oi p1, oi p2, oi p3, oi p4, oR a_STOCK, oj m6, .second, oj m8, .second, oj m10, .second, oj m12, .second, oR ao_24, oR b45, oR b56, .val (.long (1 : Int64)), .second] [(.int (lcmpW (1 : Int64) (1 : Int64)))])) (fun _ k => XS.lcmp X70.here hx rfl (hb hby at_137) rfl k) ?_
      have hc71 : (1 : Int64) = (1 : Int64) := rfl
      refine own_go (st' := T70.setTop (mkF m 141 #[oi p0, oi p1, oi p2, oi p3, oi p4, oR a_STOCK, oj m6, .second, oj m8, .second, oj m10, .second, oj m12, .second, oR ao_24, oR b45, oR b56, .val (.long (1 : Int64)), .second] [])) (fun _ k => XS.ifNo X70.here hx rfl (hb hby at_138) rfl ((if0 _ _).trans (teq ((lw_eq (1 : Int64) (1 : Int64)).mpr hc71)).2) k) ?_
      refine own_go (st' := T70.setTop (mkF m 143 #[oi p0, oi p1, oi p2, oi p3, oi p4, oR a_STOCK, oj m6, .second, oj m8, .second, oj m10, .second, oj m12, .second, oR ao_24, oR b45, oR b56, .val (.long (1 : Int64)), .second] [(.long (1 : Int64))])) (fun _ k => XS.lload X70.here hx rfl (hb hby at_141) rfl k) ?_
      refine own_go (st' := T70.setTop (mkF m 145 #[oi p0, oi p1, oi p2, oi p3, oi p4, oR a_STOCK, oj m6, .second, oj m8, .second, oj m10, .second, oj m12, .second, oR ao_24, oR b45, oR b56, .val (.long (1 : Int64)), .second] [(.ref a_STOCK), (.long (1 : Int64))])) (fun _ k => XS.aload X70.here hx rfl (hb hby at_143) rfl rfl k) ?_
      refine own_go (st' := T70.setTop (mkF m 147 #[oi p0, oi p1, oi p2, oi p3, oi p4, oR a_STOCK, oj m6, .second, oj m8, .second, oj m10, .second, oj m12, .second, oR ao_24, oR b45, oR b56, .val (.long (1 : Int64)), .second] [(.ref ao_24), (.ref a_STOCK), (.long (1 : Int64))])) (fun _ k => XS.aload X70.here hx rfl (hb hby at_145) rfl rfl k) ?_
      refine own_go (st' := T70.setTop (mkF m 149 #[oi p0, oi p1, oi p2, oi p3, oi p4, oR a_STOCK, oj m6, .second, oj m8, .second, oj m10, .second, oj m12, .second, oR ao_24, oR b45, oR b56, .val (.long (1 : Int64)), .second] [(.ref b56), (.ref ao_24), (.ref a_STOCK), (.long (1 : Int64))])) (fun _ k => XS.aload X70.here hx rfl (hb hby at_147) rfl rfl k) ?_
      obtain ⟨cq72, kq72, q72a, q72b, q72c⟩ := isOf hZ eq70 c69
      obtain ⟨_, _, ⟨T72, LC72, kC72, nC72⟩, -, X72, ⟨Lc72, hQ72, lq72, yq72, zq72⟩, st72⟩ := X70.virtualBack hx (y := oM1) (z := oM1) hown (mvT hZ (own_hw hw 454)) (mvT hZ (own_hw hw 455)) (notFace_of_selects (args := #[]) (mvT hZ (own_hw hw 457))) (mvT hZ (own_hw hw 457)) (mvT hZ (own_hw hw 456)) (by decide) (backOf (W := 2) (rpc_1 l Z a0 hw [] a_STOCK ao_24 b56 h62 n0 (by omega) c68) hZ (own_hw hw 458) (own_hw hw 1) (by decide) (by decide)) q72a q72c (g := (mkF m 149 #[oi p0, oi p1, oi p2, oi p3, oi p4, oR a_STOCK, oj m6, .second, oj m8, .second, oj m10, .second, oj m12, .second, oR ao_24, oR b45, oR b56, .val (.long (1 : Int64)), .second] [(.ref b56), (.ref ao_24), (.ref a_STOCK), (.long (1 : Int64))])) rfl (by rw [hml]; rfl) (Steps.refl _) (argsL := [(.ref ao_24), (.ref b56)]) (rest := [(.long (1 : Int64))]) (lenOf pd_39 rfl) rfl (by show 2 * 0 + _ ≤ _; exact Nat.le_of_eq rfl) (hb hby at_149) (fun _ _ => ⟨rfl, eq70, (by decide : 30 + 0 ≤ _), (by decide : 76 + 0 ≤ _)⟩)
      dsimp only [Pt.U, Pt.locs, Pt.cells, Pt.slots] at X72 lq72 yq72 zq72 st72 hQ72
      subst lq72 yq72 zq72
      obtain ⟨rfl, Nq72, eq72⟩ := hQ72
      have N72 := Fr.app N70 Nq72
      refine own_go (st' := T72.setTop (mkF m 152 #[oi p0, oi p1, oi p2, oi p3, oi p4, oR a_STOCK, oj m6, .second, oj m8, .second, oj m10, .second, oj m12, .second, oR ao_24, oR b45, oR b56, .val (.long (1 : Int64)), .second] [(.long (1 : Int64)), (.long (1 : Int64))])) (fun _ k => st72.trans k) ?_
      refine own_go (st' := T72.setTop (mkF m 153 #[oi p0, oi p1, oi p2, oi p3, oi p4, oR a_STOCK, oj m6, .second, oj m8, .second, oj m10, .second, oj m12, .second, oR ao_24, oR b45, oR b56, .val (.long (1 : Int64)), .second] [(.int (lcmpW (1 : Int64) (1 : Int64)))])) (fun _ k => XS.lcmp X72.here hx rfl (hb hby at_152) rfl k) ?_
      have hc73 : ¬ ((1 : Int64) < (1 : Int64)) := (own_irrL 1)
      refine own_go (st' := T72.setTop (mkF m 156 #[oi p0, oi p1, oi p2, oi p3, oi p4, oR a_STOCK, oj m6, .second, oj m8, .second, oj m10, .second, oj m12, .second, oR ao_24, oR b45, oR b56, .val (.long (1 : Int64)), .second] [])) (fun _ k => XS.ifNo X72.here hx rfl (hb hby at_153) rfl ((if0 _ _).trans (flt (fun q_ => hc73 ((lw_gt (1 : Int64) (1 : Int64)).mp q_))).2.2.1) k) ?_
      refine own_go (st' := T72.setTop (mkF m 157 #[oi p0, oi p1, oi p2, oi p3, oi p4, oR a_STOCK, oj m6, .second, oj m8, .second, oj m10, .second, oj m12, .second, oR ao_24, oR b45, oR b56, .val (.long (1 : Int64)), .second] [(.int (1 : Int32))])) (fun _ k => XS.iconst X72.here hx rfl (hb hby at_156) k) ?_
      refine own_go (st' := T72.setTop (mkF m 161 #[oi p0, oi p1, oi p2, oi p3, oi p4, oR a_STOCK, oj m6, .second, oj m8, .second, oj m10, .second, oj m12, .second, oR ao_24, oR b45, oR b56, .val (.long (1 : Int64)), .second] [(.int (1 : Int32))])) (fun _ k => XS.goto X72.here hx rfl (pc0 := 157) (pc' := 161) rfl (hb hby at_157) (by decide) (by decide) k) ?_
      obtain ⟨fs, hr, hrun, hended, hW, hsame⟩ := X72.leave (v := some (.int (1 : Int32))) (fun h => by rw [Bd.returns] at h; cases h)
      refine ⟨_, _, ?_, hP _ _ hrun hended ⟨_, _, rfl, ?_, ⟨_, rfl⟩, hW, hsame.mono (by decide) (by decide)⟩⟩
      · exact retN X72 hx (t := .boolean) Bd.returns (by simp) (hb hby at_161) hr
      · show Qrm0 Z p0 p1 p2 p3 p4 a_STOCK a_LONGEST_FIRST a_TRIM cal h0 n0 _ T72.heap _
        rw [eq72]
        exact ⟨rfl, N72, trivial⟩
    · --
      refine own_go (st' := T62.setTop (mkF m 121 #[oi p0, oi p1, oi p2, oi p3, oi p4, oR a_TRIM, oj m6, .second, oj m8, .second, oj m10, .second, oj m12, .second, oR ao_24, oR b45, oR b56, .unset, .unset] [(.ref a_TRIM)])) (fun _ k => XS.aload X62.here hx rfl (hb hby at_119) rfl rfl k) ?_
      have c76 : Sta Z h62 oS19 "STOCK" oS28 (.ref a_STOCK) := (own_sta_keep ((((own_sta_keep ((((own_sta_keep (own_sta_keep (own_sta_keep (own_sta_keep (pr1.ext E2) K5 (allS (P := fun x => ∀ c : Cell, h2[x]? = some c → c.vm.isStatics = false) (own_pl_exa A2) all0)) K7 (allS (P := fun x => ∀ c : Cell, h5[x]? = some c → c.vm.isStatics = false) (own_pl_exa g5_3) all0)) K11 (allS (P := fun x => ∀ c : Cell, h7[x]? = some c → c.vm.isStatics = false) (own_pl_exa c14) all0)) K24 (allS (P := fun x => ∀ c : Cell, h11[x]? = some c → c.vm.isStatics = false) (own_pl_exa c28) (allS (P := fun x => ∀ c : Cell, h11[x]? = some c → c.vm.isStatics = false) (own_pl_exa g11_0) all0))).ext E45).ext E49).wr W50) K51 (allS (P := fun x => ∀ c : Cell, h50[x]? = some c → c.vm.isStatics = false) (own_pl_exa c52) all0)).ext E56).ext E60).wr W61) K62 (allS (P := fun x => ∀ c : Cell, h61[x]? = some c → c.vm.isStatics = false) (own_pl_exa c63) all0))
      have c77 : Exa Z h62 a_TRIM oS19 := (((((((((((((pr6.ext E2).keep K5).keep K7).keep K11).keep K24).ext E45).ext E49).wr W50).keep K51).ext E56).ext E60).wr W61).keep K62)
      obtain ⟨cq75, kq75, q75a, q75b, q75c⟩ := isOf hZ e62 c77
      obtain ⟨_, _, ⟨T75, LC75, kC75, nC75⟩, -, X75, ⟨Lc75, hQ75, lq75, yq75, zq75⟩, st75⟩ := X62.virtualBack hx (y := oM4) (z := oM4) hown (mvT hZ (own_hw hw 448)) (mvT hZ (own_hw hw 449)) (notFace_of_selects (args := #[]) (mvT hZ (own_hw hw 451))) (mvT hZ (own_hw hw 451)) (mvT hZ (own_hw hw 450)) (by decide) (backOf (W := 0) (rlv_0 l Z a0 hw [] a_STOCK a_TRIM h62 n0 (by omega) c76 own_nr) hZ (own_hw hw 452) (own_hw hw 1) (by decide) (by decide)) q75a q75c (g := (mkF m 121 #[oi p0, oi p1, oi p2, oi p3, oi p4, oR a_TRIM, oj m6, .second, oj m8, .second, oj m10, .second, oj m12, .second, oR ao_24, oR b45, oR b56, .unset, .unset] [(.ref a_TRIM)])) rfl (by rw [hml]; rfl) (Steps.refl _) (argsL := []) (rest := []) (lenOf pd_16 rfl) rfl (by show 2 * 0 + _ ≤ _; exact Nat.le_of_eq rfl) (hb hby at_121) (fun _ _ => ⟨rfl, e62, (by decide : 30 + 0 ≤ _), (by decide : 76 + 0 ≤ _)⟩)
      dsimp only [Pt.U, Pt.locs, Pt.cells, Pt.slots] at X75 lq75 yq75 zq75 st75 hQ75
      subst lq75 yq75 zq75
      obtain ⟨rfl, Nq75, eq75⟩ := hQ75
      have N75 := Fr.app N62 Nq75
      refine own_go (st' := T75.setTop (mkF m 124 #[oi p0, oi p1, oi p2, oi p3, oi p4, oR a_TRIM, oj m6, .second, oj m8, .second, oj m10, .second, oj m12, .second, oR ao_24, oR b45, oR b56, .unset, .unset] [(.long (0 : Int64))])) (fun _ k => st75.trans k) ?_
      refine own_go (st' := T75.setTop (mkF m 126 #[oi p0, oi p1, oi p2, oi p3, oi p4, oR a_TRIM, oj m6, .second, oj m8, .second, oj m10, .second, oj m12, .second, oR ao_24, oR b45, oR b56, .val (.long (0 : Int64)), .second] [])) (fun _ k => XS.lstore X75.here hx rfl (hb hby at_124) rfl (l' := #[oi p0, oi p1, oi p2, oi p3, oi p4, oR a_TRIM, oj m6, .second, oj m8, .second, oj m10, .second, oj m12, .second, oR ao_24, oR b45, oR b56, .val (.long (0 : Int64)), .second]) rfl k) ?_
      refine own_go (st' := T75.setTop (mkF m 128 #[oi p0, oi p1, oi p2, oi p3, oi p4, oR a_TRIM, oj m6, .second, oj m8, .second, oj m10, .second, oj m12, .second, oR ao_24, oR b45, oR b56, .val (.long (0 : Int64)), .second] [(.long (0 : Int64))])) (fun _ k => XS.lload X75.here hx rfl (hb hby at_126) rfl k) ?_
      refine own_go (st' := T75.setTop (mkF m 130 #[oi p0, oi p1, oi p2, oi p3, oi p4, oR a_TRIM, oj m6, .second, oj m8, .second, oj m10, .second, oj m12, .second, oR ao_24, oR b45, oR b56, .val (.long (0 : Int64)), .second] [(.ref a_TRIM), (.long (0 : Int64))])) (fun _ k => XS.aload X75.here hx rfl (hb hby at_128) rfl rfl k) ?_
      refine own_go (st' := T75.setTop (mkF m 132 #[oi p0, oi p1, oi p2, oi p3, oi p4, oR a_TRIM, oj m6, .second, oj m8, .second, oj m10, .second, oj m12, .second, oR ao_24, oR b45, oR b56, .val (.long (0 : Int64)), .second] [(.ref ao_24), (.ref a_TRIM), (.long (0 : Int64))])) (fun _ k => XS.aload X75.here hx rfl (hb hby at_130) rfl rfl k) ?_
      refine own_go (st' := T75.setTop (mkF m 134 #[oi p0, oi p1, oi p2, oi p3, oi p4, oR a_TRIM, oj m6, .second, oj m8, .second, oj m10, .second, oj m12, .second, oR ao_24, oR b45, oR b56, .val (.long (0 : Int64)), .second] [(.ref b45), (.ref ao_24), (.ref a_TRIM), (.long (0 : Int64))])) (fun _ k => XS.aload X75.here hx rfl (hb hby at_132) rfl rfl k) ?_
      have c79 : Exa Z h62 b45 oS7 := ((((g51_0.ext E56).ext E60).wr W61).keep K62)
      have c80 : Fld Z h62 b45 oS7 "counts" "[J" (.ref b49) := ((((g51_2.ext E56).ext E60).other W61 (Or.inl own_nq)).keep K62 (ninS own_nq nin0))
      have c81 : Arv Z h62 b49 k49 .long (1 : Int32) [(.long m8)] (.long (0 : Int64)) := (((((v50.keep K51 (ninS own_nq nin0)).ext E56).ext E60).other W61 own_nq).keep K62 (ninS own_nq nin0))
      have c82 : Exa Z h62 ao_24 oS9 := ((((((((g24_0.ext E45).ext E49).wr W50).keep K51).ext E56).ext E60).wr W61).keep K62)
      have c83 : Fld Z h62 ao_24 oS9 "length" "[J" (.ref s3_24) := ((((((((g24_2.ext E45).ext E49).other W50 (Or.inl own_nq)).keep K51 (ninS own_nq nin0)).ext E56).ext E60).other W61 (Or.inl own_nq)).keep K62 (ninS own_nq nin0))
      have c84 : Arv Z h62 s3_24 k3__24 .long (1 : Int32) [(.long m6)] (.long (0 : Int64)) := ((((((((g24_4.ext E45).ext E49).other W50 own_nq).keep K51 (ninS own_nq nin0)).ext E56).ext E60).other W61 own_nq).keep K62 (ninS own_nq nin0))
      have c85 : Fld Z h62 b45 oS7 "stock" "I" (.int (0 : Int32)) := ((((g51_1.ext E56).ext E60).other W61 (Or.inl own_nq)).keep K62 (ninS own_nq nin0))
      have c86 : Fld Z h62 ao_24 oS9 "stockLength" "[J" (.ref s1_24) := ((((((((g24_1.ext E45).ext E49).other W50 (Or.inl own_nq)).keep K51 (ninS own_nq nin0)).ext E56).ext E60).other W61 (Or.inl own_nq)).keep K62 (ninS own_nq nin0))
      have c87 : Arv Z h62 s1_24 k1__24 .long (1 : Int32) [(.long (m6 * m8))] (.long (0 : Int64)) := ((((((((g24_3.ext E45).ext E49).other W50 own_nq).keep K51 (ninS own_nq nin0)).ext E56).ext E60).other W61 own_nq).keep K62 (ninS own_nq nin0))
      obtain ⟨cq78, kq78, q78a, q78b, q78c⟩ := isOf hZ eq75 c77
      obtain ⟨_, _, ⟨T78, LC78, kC78, nC78⟩, -, X78, ⟨Lc78, hQ78, lq78, yq78, zq78⟩, st78⟩ := X75.virtualBack hx (y := oM1) (z := oM1) hown (mvT hZ (own_hw hw 454)) (mvT hZ (own_hw hw 455)) (notFace_of_selects (args := #[]) (mvT hZ (own_hw hw 457))) (mvT hZ (own_hw hw 457)) (mvT hZ (own_hw hw 456)) (by decide) (backOf (W := 2) (rpc_0 l Z a0 hw [] a_STOCK a_TRIM b45 ao_24 s3_24 b49 k3__24 k49 m8 m6 s1_24 k1__24 (m6 * m8) h62 n0 (by omega) c76 own_nr c79 c80 c81 c82 c83 c84 hn8 hn6 hpr8 hnp8 c85 c86 c87) hZ (own_hw hw 458) (own_hw hw 1) (by decide) (by decide)) q78a q78c (g := (mkF m 134 #[oi p0, oi p1, oi p2, oi p3, oi p4, oR a_TRIM, oj m6, .second, oj m8, .second, oj m10, .second, oj m12, .second, oR ao_24, oR b45, oR b56, .val (.long (0 : Int64)), .second] [(.ref b45), (.ref ao_24), (.ref a_TRIM), (.long (0 : Int64))])) rfl (by rw [hml]; rfl) (Steps.refl _) (argsL := [(.ref ao_24), (.ref b45)]) (rest := [(.long (0 : Int64))]) (lenOf pd_39 rfl) rfl (by show 2 * 0 + _ ≤ _; exact Nat.le_of_eq rfl) (hb hby at_134) (fun _ _ => ⟨rfl, eq75, (by decide : 30 + 0 ≤ _), (by decide : 76 + 0 ≤ _)⟩)
      dsimp only [Pt.U, Pt.locs, Pt.cells, Pt.slots] at X78 lq78 yq78 zq78 st78 hQ78
      subst lq78 yq78 zq78
      obtain ⟨rfl, Nq78, eq78⟩ := hQ78
      have N78 := Fr.app N75 Nq78
      refine own_go (st' := T78.setTop (mkF m 137 #[oi p0, oi p1, oi p2, oi p3, oi p4, oR a_TRIM, oj m6, .second, oj m8, .second, oj m10, .second, oj m12, .second, oR ao_24, oR b45, oR b56, .val (.long (0 : Int64)), .second] [(.long ((m6 * m8) - ((0 : Int64) + (m8 * m6)))), (.long (0 : Int64))])) (fun _ k => st78.trans k) ?_
      refine own_go (st' := T78.setTop (mkF m 138 #[oi p0, oi p1, oi p2, oi p3, oi p4, oR a_TRIM, oj m6, .second, oj m8, .second, oj m10, .second, oj m12, .second, oR ao_24, oR b45, oR b56, .val (.long (0 : Int64)), .second] [(.int (lcmpW (0 : Int64) ((m6 * m8) - ((0 : Int64) + (m8 * m6)))))])) (fun _ k => XS.lcmp X78.here hx rfl (hb hby at_137) rfl k) ?_
      have hc88 : (0 : Int64) = ((m6 * m8) - ((0 : Int64) + (m8 * m6))) := (own_tr0 m6 m8)
      refine own_go (st' := T78.setTop (mkF m 141 #[oi p0, oi p1, oi p2, oi p3, oi p4, oR a_TRIM, oj m6, .second, oj m8, .second, oj m10, .second, oj m12, .second, oR ao_24, oR b45, oR b56, .val (.long (0 : Int64)), .second] [])) (fun _ k => XS.ifNo X78.here hx rfl (hb hby at_138) rfl ((if0 _ _).trans (teq ((lw_eq (0 : Int64) ((m6 * m8) - ((0 : Int64) + (m8 * m6)))).mpr hc88)).2) k) ?_
      refine own_go (st' := T78.setTop (mkF m 143 #[oi p0, oi p1, oi p2, oi p3, oi p4, oR a_TRIM, oj m6, .second, oj m8, .second, oj m10, .second, oj m12, .second, oR ao_24, oR b45, oR b56, .val (.long (0 : Int64)), .second] [(.long (0 : Int64))])) (fun _ k => XS.lload X78.here hx rfl (hb hby at_141) rfl k) ?_
      refine own_go (st' := T78.setTop (mkF m 145 #[oi p0, oi p1, oi p2, oi p3, oi p4, oR a_TRIM, oj m6, .second, oj m8, .second, oj m10, .second, oj m12, .second, oR ao_24, oR b45, oR b56, .val (.long (0 : Int64)), .second] [(.ref a_TRIM), (.long (0 : Int64))])) (fun _ k => XS.aload X78.here hx rfl (hb hby at_143) rfl rfl k) ?_
      refine own_go (st' := T78.setTop (mkF m 147 #[oi p0, oi p1, oi p2, oi p3, oi p4, oR a_TRIM, oj m6, .second, oj m8, .second, oj m10, .second, oj m12, .second, oR ao_24, oR b45, oR b56, .val (.long (0 : Int64)), .second] [(.ref ao_24), (.ref a_TRIM), (.long (0 : Int64))])) (fun _ k => XS.aload X78.here hx rfl (hb hby at_145) rfl rfl k) ?_
      refine own_go (st' := T78.setTop (mkF m 149 #[oi p0, oi p1, oi p2, oi p3, oi p4, oR a_TRIM, oj m6, .second, oj m8, .second, oj m10, .second, oj m12, .second, oR ao_24, oR b45, oR b56, .val (.long (0 : Int64)), .second] [(.ref b56), (.ref ao_24), (.ref a_TRIM), (.long (0 : Int64))])) (fun _ k => XS.aload X78.here hx rfl (hb hby at_147) rfl rfl k) ?_
      have c90 : Arv Z h62 b60 k60 .long (1 : Int32) [(.long m12)] (.long (0 : Int64)) := (v61.keep K62 (ninS own_nq nin0))
      obtain ⟨cq89, kq89, q89a, q89b, q89c⟩ := isOf hZ eq78 c77
      obtain ⟨_, _, ⟨T89, LC89, kC89, nC89⟩, -, X89, ⟨Lc89, hQ89, lq89, yq89, zq89⟩, st89⟩ := X78.virtualBack hx (y := oM1) (z := oM1) hown (mvT hZ (own_hw hw 454)) (mvT hZ (own_hw hw 455)) (notFace_of_selects (args := #[]) (mvT hZ (own_hw hw 457))) (mvT hZ (own_hw hw 457)) (mvT hZ (own_hw hw 456)) (by decide) (backOf (W := 2) (rpc_0 l Z a0 hw [] a_STOCK a_TRIM b56 ao_24 s3_24 b60 k3__24 k60 m12 m6 s1_24 k1__24 (m6 * m8) h62 n0 (by omega) c76 own_nr g62_0 g62_2 c90 c82 c83 c84 hn12 hn6 hpr12 hnp12 g62_1 c86 c87) hZ (own_hw hw 458) (own_hw hw 1) (by decide) (by decide)) q89a q89c (g := (mkF m 149 #[oi p0, oi p1, oi p2, oi p3, oi p4, oR a_TRIM, oj m6, .second, oj m8, .second, oj m10, .second, oj m12, .second, oR ao_24, oR b45, oR b56, .val (.long (0 : Int64)), .second] [(.ref b56), (.ref ao_24), (.ref a_TRIM), (.long (0 : Int64))])) rfl (by rw [hml]; rfl) (Steps.refl _) (argsL := [(.ref ao_24), (.ref b56)]) (rest := [(.long (0 : Int64))]) (lenOf pd_39 rfl) rfl (by show 2 * 0 + _ ≤ _; exact Nat.le_of_eq rfl) (hb hby at_149) (fun _ _ => ⟨rfl, eq78, (by decide : 30 + 0 ≤ _), (by decide : 76 + 0 ≤ _)⟩)
      dsimp only [Pt.U, Pt.locs, Pt.cells, Pt.slots] at X89 lq89 yq89 zq89 st89 hQ89
      subst lq89 yq89 zq89
      obtain ⟨rfl, Nq89, eq89⟩ := hQ89
      have N89 := Fr.app N78 Nq89
      refine own_go (st' := T89.setTop (mkF m 152 #[oi p0, oi p1, oi p2, oi p3, oi p4, oR a_TRIM, oj m6, .second, oj m8, .second, oj m10, .second, oj m12, .second, oR ao_24, oR b45, oR b56, .val (.long (0 : Int64)), .second] [(.long ((m6 * m8) - ((0 : Int64) + (m12 * m6)))), (.long (0 : Int64))])) (fun _ k => st89.trans k) ?_
      refine own_go (st' := T89.setTop (mkF m 153 #[oi p0, oi p1, oi p2, oi p3, oi p4, oR a_TRIM, oj m6, .second, oj m8, .second, oj m10, .second, oj m12, .second, oR ao_24, oR b45, oR b56, .val (.long (0 : Int64)), .second] [(.int (lcmpW (0 : Int64) ((m6 * m8) - ((0 : Int64) + (m12 * m6)))))])) (fun _ k => XS.lcmp X89.here hx rfl (hb hby at_152) rfl k) ?_
      have hc91 : ¬ (((m6 * m8) - ((0 : Int64) + (m12 * m6))) < (0 : Int64)) := (own_trn hb_m6.1 hb_m6.2 hb_m8.1 hb_m8.2 hb_m12.1 hb_m12.2)
      refine own_go (st' := T89.setTop (mkF m 156 #[oi p0, oi p1, oi p2, oi p3, oi p4, oR a_TRIM, oj m6, .second, oj m8, .second, oj m10, .second, oj m12, .second, oR ao_24, oR b45, oR b56, .val (.long (0 : Int64)), .second] [])) (fun _ k => XS.ifNo X89.here hx rfl (hb hby at_153) rfl ((if0 _ _).trans (flt (fun q_ => hc91 ((lw_gt (0 : Int64) ((m6 * m8) - ((0 : Int64) + (m12 * m6)))).mp q_))).2.2.1) k) ?_
      refine own_go (st' := T89.setTop (mkF m 157 #[oi p0, oi p1, oi p2, oi p3, oi p4, oR a_TRIM, oj m6, .second, oj m8, .second, oj m10, .second, oj m12, .second, oR ao_24, oR b45, oR b56, .val (.long (0 : Int64)), .second] [(.int (1 : Int32))])) (fun _ k => XS.iconst X89.here hx rfl (hb hby at_156) k) ?_
      refine own_go (st' := T89.setTop (mkF m 161 #[oi p0, oi p1, oi p2, oi p3, oi p4, oR a_TRIM, oj m6, .second, oj m8, .second, oj m10, .second, oj m12, .second, oR ao_24, oR b45, oR b56, .val (.long (0 : Int64)), .second] [(.int (1 : Int32))])) (fun _ k => XS.goto X89.here hx rfl (pc0 := 157) (pc' := 161) rfl (hb hby at_157) (by decide) (by decide) k) ?_
      obtain ⟨fs, hr, hrun, hended, hW, hsame⟩ := X89.leave (v := some (.int (1 : Int32))) (fun h => by rw [Bd.returns] at h; cases h)
      refine ⟨_, _, ?_, hP _ _ hrun hended ⟨_, _, rfl, ?_, ⟨_, rfl⟩, hW, hsame.mono (by decide) (by decide)⟩⟩
      · exact retN X89 hx (t := .boolean) Bd.returns (by simp) (hb hby at_161) hr
      · show Qrm0 Z p0 p1 p2 p3 p4 a_STOCK a_LONGEST_FIRST a_TRIM cal h0 n0 _ T89.heap _
        rw [eq89]
        exact ⟨rfl, N89, trivial⟩
  refine own_go (st' := s₁.setTop (mkF m 1 #[oi p0, oi p1, oi p2, oi p3, oi p4, .unset, .unset, .unset, .unset, .unset, .unset, .unset, .unset, .unset, .unset, .unset, .unset, .unset, .unset] [(.int p0)])) (fun _ k => XS.iloadN X0.here hx rfl (hb hby at_0) rfl k) ?_
  refine own_go (st' := s₁.setTop (mkF m 2 #[oi p0, oi p1, oi p2, oi p3, oi p4, .unset, .unset, .unset, .unset, .unset, .unset, .unset, .unset, .unset, .unset, .unset, .unset, .unset, .unset] [(.int (1 : Int32)), (.int p0)])) (fun _ k => XS.iconst X0.here hx rfl (hb hby at_1) k) ?_
  refine own_go (st' := s₁.setTop (mkF m 3 #[oi p0, oi p1, oi p2, oi p3, oi p4, .unset, .unset, .unset, .unset, .unset, .unset, .unset, .unset, .unset, .unset, .unset, .unset, .unset, .unset] [(.int (p0 &&& (1 : Int32)))])) (fun _ k => XS.iand X0.here hx rfl (hb hby at_2) rfl k) ?_
  by_cases hc93 : (p0 &&& (1 : Int32)) = (0 : Int32)
  · --
    refine own_go (st' := s₁.setTop (mkF m 12 #[oi p0, oi p1, oi p2, oi p3, oi p4, .unset, .unset, .unset, .unset, .unset, .unset, .unset, .unset, .unset, .unset, .unset, .unset, .unset, .unset] [])) (fun _ k => XS.ifYes X0.here hx rfl (pc0 := 3) (pc' := 12) rfl (hb hby at_3) rfl ((if0 _ _).trans (teq hc93).1) (by decide) (by decide) k) ?_
    obtain ⟨T94, X94, e94, st94⟩ := getS2 X0 hx hZ hown (host := "") (Or.inl (own_hw hw 0)) Via.refl e0 pr1 (g := (mkF m 12 #[oi p0, oi p1, oi p2, oi p3, oi p4, .unset, .unset, .unset, .unset, .unset, .unset, .unset, .unset, .unset, .unset, .unset, .unset, .unset, .unset] [])) rfl (hb hby at_12)
    refine own_go (st' := T94.setTop (mkF m 15 #[oi p0, oi p1, oi p2, oi p3, oi p4, .unset, .unset, .unset, .unset, .unset, .unset, .unset, .unset, .unset, .unset, .unset, .unset, .unset, .unset] [(.ref a_STOCK)])) (st94) ?_
    exact J15_1 _ _ a_STOCK X94 e94 N0 (Or.inl rfl)
  · --
    refine own_go (st' := s₁.setTop (mkF m 6 #[oi p0, oi p1, oi p2, oi p3, oi p4, .unset, .unset, .unset, .unset, .unset, .unset, .unset, .unset, .unset, .unset, .unset, .unset, .unset, .unset] [])) (fun _ k => XS.ifNo X0.here hx rfl (hb hby at_3) rfl ((if0 _ _).trans (feq hc93).1) k) ?_
    obtain ⟨T95, X95, e95, st95⟩ := getS2 X0 hx hZ hown (host := "") (Or.inl (own_hw hw 459)) Via.refl e0 pr5 (g := (mkF m 6 #[oi p0, oi p1, oi p2, oi p3, oi p4, .unset, .unset, .unset, .unset, .unset, .unset, .unset, .unset, .unset, .unset, .unset, .unset, .unset, .unset] [])) rfl (hb hby at_6)
    refine own_go (st' := T95.setTop (mkF m 9 #[oi p0, oi p1, oi p2, oi p3, oi p4, .unset, .unset, .unset, .unset, .unset, .unset, .unset, .unset, .unset, .unset, .unset, .unset, .unset, .unset] [(.ref a_TRIM)])) (st95) ?_
    refine own_go (st' := T95.setTop (mkF m 15 #[oi p0, oi p1, oi p2, oi p3, oi p4, .unset, .unset, .unset, .unset, .unset, .unset, .unset, .unset, .unset, .unset, .unset, .unset, .unset, .unset] [(.ref a_TRIM)])) (fun _ k => XS.goto X95.here hx rfl (pc0 := 9) (pc' := 15) rfl (hb hby at_9) (by decide) (by decide) k) ?_
    exact J15_1 _ _ a_TRIM X95 e95 N0 (Or.inr rfl)
set_option maxRecDepth 65536 in
set_option maxHeartbeats 40000000 in
theorem comes_1 {Post : Tables → Env → Array Value → State → Outcome → State → Prop} (hpost : ∀ tb e args s v u, (limb_1_1.after args s (.returned v) u = true ∧ limb_1_2.after args s (.returned v) u = true ∧ True) → FrameEnd s (.returned v) u (Jvm.fieldLocs frame_1_writes args s ++ Jvm.arrayLocs frame_1_arrays args s ++ Jvm.staticLocs frame_1_statics s) 64 256 → Post tb e args s (.returned v) u) :
    ArmFor flags0 classFile x code maxLocals ret World_1 tables_1 room_1 Calls_1 rest_1 Pre_1 Post := by
  intro l hfl _ _ p e ha hc hk s m args below hf hA hF happ hP
  obtain ⟨hcalls, hrest, hpre⟩ := hP
  obtain ⟨-, -, -, hnamed, -, -, -, hat⟩ := (Spec.applies_iff hf).mp happ
  obtain ⟨hg, hn⟩ := and_e (Cond.before_iff.mp (show (Jvm.Cond.and given_1 narrow_1).before args s = true from hpre))
  obtain ⟨h1, h2⟩ := and_e hg
  obtain ⟨w0, w1, w2, w3, w4, rfl⟩ : ∃ w0 w1 w2 w3 w4 : Value, args = #[w0, w1, w2, w3, w4] := by
    have hs : args.size = 5 := by simpa [Cond.value, given_1] using h1
    obtain ⟨L⟩ := args
    match L, hs with
    | [w0, w1, w2, w3, w4], _ => exact ⟨w0, w1, w2, w3, w4, rfl⟩
  have hw := fun d (hd : d ∈ tables_1) => atoms_spec (ws := Jvm.Cond.code x code maxLocals ret :: tables_1) hat d (List.mem_cons_of_mem _ hd)
  have hfit : Fit s := fun {y c} hc i hi => by
    obtain ⟨ha, rfl⟩ := Array.getElem?_eq_some_iff.mp hc
    have q := List.all_eq_true.mp ((Array.all_eq_true_iff_forall_mem.mp hF) _ (Array.getElem_mem ha)) i (List.mem_range.mpr hi)
    simpa [Array.getElem?_eq_getElem hi] using q
  obtain ⟨hsets, hown0⟩ := atoms_of _ (rest_1_c_eq ▸ (show rest_1_c.before _ s = true from hrest))
  obtain ⟨ha0, hr0⟩ := and_e h2
  obtain ⟨p0, ev0⟩ := is_v ha0
  obtain rfl : w0 = (.int p0) := Option.some.inj ev0
  obtain ⟨ha1, hr1⟩ := and_e hr0
  obtain ⟨p1, ev1⟩ := is_v ha1
  obtain rfl : w1 = (.int p1) := Option.some.inj ev1
  obtain ⟨ha2, hr2⟩ := and_e hr1
  obtain ⟨p2, ev2⟩ := is_v ha2
  obtain rfl : w2 = (.int p2) := Option.some.inj ev2
  obtain ⟨ha3, hr3⟩ := and_e hr2
  obtain ⟨p3, ev3⟩ := is_v ha3
  obtain rfl : w3 = (.int p3) := Option.some.inj ev3
  obtain ⟨p4, ev4⟩ := is_v hr3
  obtain rfl : w4 = (.int p4) := Option.some.inj ev4
  obtain ⟨nw0, nr0⟩ := and_e hn
  obtain ⟨nw1, nr1⟩ := and_e nr0
  obtain ⟨nw2, nr2⟩ := and_e nr1
  obtain ⟨nw3, nr3⟩ := and_e nr2
  have nw4 := nr3
  obtain ⟨a_STOCK, ea_STOCK⟩ := exa_v nw0
  have sa_STOCK : Sta s s.heap oS19 "STOCK" oS28 (.ref a_STOCK) := Sta.start ea_STOCK (Or.inr ⟨(own_hw hw 1), (own_hw hw 2)⟩)
  have xa_STOCK : Exa s s.heap a_STOCK oS19 := Exa.start ea_STOCK nw0
  obtain ⟨a_LONGEST_FIRST, ea_LONGEST_FIRST⟩ := exa_v nw1
  have sa_LONGEST_FIRST : Sta s s.heap oS5 oS29 oS6 (.ref a_LONGEST_FIRST) := Sta.start ea_LONGEST_FIRST (Or.inr ⟨(own_hw hw 8), (own_hw hw 19)⟩)
  have xa_LONGEST_FIRST : Exa s s.heap a_LONGEST_FIRST oS21 := Exa.start ea_LONGEST_FIRST nw1
  obtain ⟨a_TRIM, ea_TRIM⟩ := exa_v nw2
  have sa_TRIM : Sta s s.heap oS19 "TRIM" oS28 (.ref a_TRIM) := Sta.start ea_TRIM (Or.inr ⟨(own_hw hw 1), (own_hw hw 460)⟩)
  have xa_TRIM : Exa s s.heap a_TRIM oS19 := Exa.start ea_TRIM nw2
  have fa_TRIM_ordinal : Fld s s.heap a_TRIM "java/lang/Enum" "ordinal" "I" (.int (1 : Int32)) := own_fld ea_TRIM nw3
  have fa_STOCK_ordinal : Fld s s.heap a_STOCK "java/lang/Enum" "ordinal" "I" (.int (0 : Int32)) := own_fld ea_STOCK nw4
  obtain ⟨cal, ecal⟩ := arr_v (Cond.before_iff.mp (hsets _ (List.mem_of_getElem? (i := 2) rfl)))
  obtain ⟨clcal, Arcal⟩ := Arr.start ecal (Cond.before_iff.mp (hsets _ (List.mem_of_getElem? (i := 2) rfl)))
  have scal : Sta s s.heap oS24 "cache" oS25 (.ref cal) := Sta.start ecal (Or.inl (hsets _ (List.mem_of_getElem? (i := 1) rfl)))
  have hcal := own_cache_ofV ecal Arcal (own_len ecal Arcal.1 (Cond.before_iff.mp (hsets _ (List.mem_of_getElem? (i := 4) rfl)))) (Cond.before_iff.mp (hsets _ (List.mem_of_getElem? (i := 5) rfl)))
  obtain ⟨n, o, h1, h2, h3, _, L, rfl, hQ, hq⟩ := rm0 l s _ hw tables_1 p0 p1 p2 p3 p4 a_STOCK a_LONGEST_FIRST a_TRIM cal s.heap s.heap.size (Nat.le_refl _) sa_STOCK xa_STOCK sa_LONGEST_FIRST xa_LONGEST_FIRST sa_TRIM xa_TRIM fa_TRIM_ordinal fa_STOCK_ordinal (own_ne_fld fa_TRIM_ordinal fa_STOCK_ordinal) scal hcal p e ha hc hk s m _ below hf ((Spec.applies_iff_loose hf).mp happ).1 ⟨rfl, State.Warmed39.refl s, rfl⟩ trivial
  obtain ⟨rfl, N, -⟩ := hQ
  refine ⟨n, _, h1, h2, h3, hpost _ _ _ _ _ _ ⟨Cond.after_iff.mpr rfl, Cond.after_iff.mpr (eq_i res_at (Term.int_eval (1)) rfl), trivial⟩ ⟨hq.1, hq.2.1, (hq.2.2.sift fun y hy => Or.inr (N y hy)).mono (by decide) (by decide)⟩⟩
theorem main_1_1 : Claimed_1_1 := comes_1 fun _ _ _ _ _ _ h hF => ⟨h.1, hF⟩
theorem main_1_2 : Claimed_1_2 := comes_1 fun _ _ _ _ _ _ h hF => ⟨h.2.1, hF⟩
end Jvm.Pilot.@@N@@
namespace Jvm.Pilot.@@N@@
open Jvm Jvm.ClassFile Sem Op Lib Jvm.Free Jvm.Stand Jvm.Pilot.@@N@@.Jvm.D
/-! MADE BY PROGRAM (witnessworld.py) out of the Statement's table words and the real class files: 49 classes; the members and pool entries that the words name. The judged class is class 1, her method 1. -/
namespace start1
open Jvm.ClassFile
def u (s : String) : CpInfo := .utf8 (stringToUtf16 s)
/-- a pool by its gaps: so many unusable entries, then the entry; so many at the end -/
def gap : Nat → List CpInfo → List CpInfo
  | 0, r => r
  | n + 1, r => .unusable :: gap n r
def poolList (es : List (Nat × CpInfo)) (last : Nat) : List CpInfo := es.foldr (fun e r => gap e.1 (e.2 :: r)) (gap last [])
def pool (es : List (Nat × CpInfo)) (last : Nat) : Array CpInfo := ⟨poolList es last⟩
def fileOf (pool : Array CpInfo) (this : Nat) (attrs : Array Attribute := #[]) (ms : Array MethodInfo := #[]) (fl : Nat := 33) (sup : Nat := 0) (ifs : Array Nat := #[]) (fds : Array FieldInfo := #[]) : ClassFile where
  minorVersion := 0
  majorVersion := 65
  constantPool := pool
  accessFlags := fl
  thisClass := this
  superClass := sup
  interfaces := ifs
  fields := fds
  methods := ms
  attributes := attrs
def plain (name : String) (sup : Option ClassId) : Class where
  name := name
  kind := .ordinary
  loader := none
  accessFlags := 33
  super := sup
  interfaces := #[]
  cf := none
  fields := #[]
  methods := #[]
  instanceTypes := #[]
  staticTypes := #[]
  resolved := #[]
  callSites := []
  init := .initialized
  statics := none
  mirror := none

def pool0 : Array CpInfo := pool [(5, u "<init>"), (0, u "()V"), (1, .class_ 10), (1, u "java/lang/Object")] 113

def k0c0 : Code := { maxStack := 0, maxLocals := 1, code := object_method_1_code, exceptionTable := #[], attributes := #[] }
def k0m0 : Method := { name := "<init>", desc := "()V", sig := { parameters := [], returnType := none }, accessFlags := 1, code := some k0c0 }
/-- java/lang/Object -/
def k0 : Class := { plain "java/lang/Object" none with
  accessFlags := 33
  interfaces := #[]
  cf := some (fileOf pool0 8 #[] #[{ accessFlags := 1, nameIndex := 5, descriptorIndex := 6, attributes := #[] }] 33 0 #[] #[])
  fields := #[]
  methods := #[k0m0]
  instanceTypes := #[]
  staticTypes := #[]
  resolved := Array.replicate 124 none
  statics := none }

def pool1 : Array CpInfo := pool [(2, .class_ 4), (0, .nameAndType 5 6), (0, u "java/lang/Object"), (0, u "<init>"), (0, u "()V"), (0, .fieldref 8 9), (0, .class_ 10), (0, .nameAndType 11 12), (0, u "com/example/millwright/millwright/cut/Objective"), (0, u "TRIM"), (0, u "Lcom/example/millwright/millwright/cut/Objective;"), (0, .fieldref 8 14), (0, .nameAndType 15 12), (0, u "STOCK"), (0, .integer 1048575), (0, .integer 65535), (0, .integer 2147483647), (0, .class_ 20), (0, u "com/example/millwright/millwright/cut/Order$Builder"), (0, .methodref 19 3), (0, .methodref 19 23), (0, .nameAndType 24 25), (0, u "stock"), (0, u "(J)Lcom/example/millwright/millwright/cut/Order$Builder;"), (0, .methodref 19 27), (0, .nameAndType 28 29), (0, u "piece"), (0, u "(JJ)Lcom/example/millwright/millwright/cut/Order$Builder;"), (0, .methodref 19 31), (0, .nameAndType 32 33), (0, u "build"), (0, u "()Lcom/example/millwright/millwright/cut/Order;"), (0, .class_ 35), (0, u "com/example/millwright/millwright/cut/Pattern"), (0, .methodref 34 37), (0, .nameAndType 5 38), (0, u "(I[J)V"), (0, .methodref 8 40), (0, .nameAndType 41 42), (0, u "leastStockValue"), (0, u "()J"), (0, .methodref 8 44), (0, .nameAndType 45 46), (0, u "patternCost"), (0, u "(Lcom/example/millwright/millwright/cut/Order;Lcom/example/millwright/millwright/cut/Pattern;)J"), (0, .class_ 48), (0, u "com/example/millwright/millwright/cut/ObjectiveLeastStockValuePinLaw"), (2, u "law"), (0, u "(IIIII)Z")] 7

def k1m0 : Method := { name := "<init>", desc := "()V", sig := { parameters := [], returnType := none }, accessFlags := 2, code := none }
def k1c1 : Code := { maxStack := 8, maxLocals := 19, code := code, exceptionTable := #[], attributes := #[] }
def k1m1 : Method := { name := "law", desc := "(IIIII)Z", sig := { parameters := [.int, .int, .int, .int, .int], returnType := some .boolean }, accessFlags := 9, code := some k1c1 }
/-- com/example/millwright/millwright/cut/ObjectiveLeastStockValuePinLaw -/
def k1 : Class := { plain "com/example/millwright/millwright/cut/ObjectiveLeastStockValuePinLaw" (some 0) with
  accessFlags := 49
  interfaces := #[]
  cf := some (fileOf pool1 47 #[] #[{ accessFlags := 2, nameIndex := 5, descriptorIndex := 6, attributes := #[] }, { accessFlags := 9, nameIndex := 51, descriptorIndex := 52, attributes := #[] }] 49 2 #[] #[])
  fields := #[]
  methods := #[k1m0, k1m1]
  instanceTypes := #[]
  staticTypes := #[]
  resolved := Array.replicate 60 none
  statics := none }

def pool2 : Array CpInfo := pool [(1, .class_ 2), (0, u "java/lang/constant/Constable"), (0, .class_ 4), (0, u "java/lang/Object")] 6

/-- java/lang/constant/Constable -/
def k2 : Class := { plain "java/lang/constant/Constable" (some 0) with
  accessFlags := 1537
  interfaces := #[]
  cf := some (fileOf pool2 1 #[] #[] 1537 3 #[] #[])
  fields := #[]
  methods := #[]
  instanceTypes := #[]
  staticTypes := #[]
  resolved := Array.replicate 11 none
  statics := none }

def pool3 : Array CpInfo := pool [(1, .class_ 2), (0, u "java/lang/Comparable"), (0, .class_ 4), (0, u "java/lang/Object"), (0, u "compareTo"), (0, u "(Ljava/lang/Object;)I")] 5

def k3m0 : Method := { name := "compareTo", desc := "(Ljava/lang/Object;)I", sig := { parameters := [(.object "java/lang/Object")], returnType := some .int }, accessFlags := 1025, code := none }
/-- java/lang/Comparable -/
def k3 : Class := { plain "java/lang/Comparable" (some 0) with
  accessFlags := 1537
  interfaces := #[]
  cf := some (fileOf pool3 1 #[] #[{ accessFlags := 1025, nameIndex := 5, descriptorIndex := 6, attributes := #[] }] 1537 3 #[] #[])
  fields := #[]
  methods := #[k3m0]
  instanceTypes := #[]
  staticTypes := #[]
  resolved := Array.replicate 12 none
  statics := none }

def pool4 : Array CpInfo := pool [(1, .class_ 2), (0, u "java/io/Serializable"), (0, .class_ 4), (0, u "java/lang/Object")] 2

/-- java/io/Serializable -/
def k4 : Class := { plain "java/io/Serializable" (some 0) with
  accessFlags := 1537
  interfaces := #[]
  cf := some (fileOf pool4 1 #[] #[] 1537 3 #[] #[])
  fields := #[]
  methods := #[]
  instanceTypes := #[]
  staticTypes := #[]
  resolved := Array.replicate 7 none
  statics := none }

def pool5 : Array CpInfo := pool [(2, .class_ 4), (1, u "java/lang/Enum"), (0, u "name"), (0, u "Ljava/lang/String;"), (2, u "ordinal"), (0, u "I"), (1, .class_ 14), (1, u "java/lang/Object"), (4, u "hash"), (86, .class_ 108), (1, u "java/lang/Enum$EnumDesc"), (2, .class_ 112), (0, u "java/lang/constant/Constable"), (0, .class_ 114), (0, u "java/lang/Comparable"), (0, .class_ 116), (0, u "java/io/Serializable")] 87

/-- java/lang/Enum -/
def k5 : Class := { plain "java/lang/Enum" (some 0) with
  accessFlags := 1057
  interfaces := #[2, 3, 4]
  cf := some (fileOf pool5 2 #[.nestMembers #[106]] #[] 1057 12 #[111, 113, 115] #[{ accessFlags := 18, nameIndex := 5, descriptorIndex := 6, attributes := #[] }, { accessFlags := 18, nameIndex := 9, descriptorIndex := 10, attributes := #[] }, { accessFlags := 2, nameIndex := 19, descriptorIndex := 10, attributes := #[] }])
  fields := #[{ name := "name", type := (.object "java/lang/String"), accessFlags := 18, slot := 0, constantValue := 0 }, { name := "ordinal", type := .int, accessFlags := 18, slot := 1, constantValue := 0 }, { name := "hash", type := .int, accessFlags := 2, slot := 2, constantValue := 0 }]
  methods := #[]
  instanceTypes := #[(.object "java/lang/String"), .int, .int]
  staticTypes := #[]
  resolved := Array.replicate 204 none
  statics := none }

def pool6 : Array CpInfo := pool [(1, .class_ 2), (0, u "com/example/millwright/millwright/cut/Objective"), (0, .fieldref 1 4), (0, .nameAndType 5 6), (0, u "STOCK"), (0, u "Lcom/example/millwright/millwright/cut/Objective;"), (2, u "TRIM"), (2, u "$VALUES"), (0, u "[Lcom/example/millwright/millwright/cut/Objective;"), (6, .class_ 22), (1, u "java/lang/Enum"), (6, .methodref 30 31), (0, .class_ 32), (0, .nameAndType 33 34), (0, u "com/example/millwright/millwright/cut/Pattern"), (0, u "trim"), (0, u "(Lcom/example/millwright/millwright/cut/Order;)J"), (5, u "()J"), (59, u "patternCost"), (0, u "(Lcom/example/millwright/millwright/cut/Order;Lcom/example/millwright/millwright/cut/Pattern;)J"), (3, u "leastStockValue")] 8

def k6c0 : Code := { maxStack := 2, maxLocals := 3, code := prog_17_method_4_code, exceptionTable := #[], attributes := #[] }
def k6m0 : Method := { name := "patternCost", desc := "(Lcom/example/millwright/millwright/cut/Order;Lcom/example/millwright/millwright/cut/Pattern;)J", sig := { parameters := [(.object "com/example/millwright/millwright/cut/Order"), (.object "com/example/millwright/millwright/cut/Pattern")], returnType := some .long }, accessFlags := 0, code := some k6c0 }
def k6c1 : Code := { maxStack := 2, maxLocals := 1, code := prog_17_method_8_code, exceptionTable := #[], attributes := #[] }
def k6m1 : Method := { name := "leastStockValue", desc := "()J", sig := { parameters := [], returnType := some .long }, accessFlags := 0, code := some k6c1 }
/-- com/example/millwright/millwright/cut/Objective -/
def k6 : Class := { plain "com/example/millwright/millwright/cut/Objective" (some 5) with
  accessFlags := 16433
  interfaces := #[]
  cf := some (fileOf pool6 1 #[] #[{ accessFlags := 0, nameIndex := 100, descriptorIndex := 101, attributes := #[] }, { accessFlags := 0, nameIndex := 105, descriptorIndex := 40, attributes := #[] }] 16433 20 #[] #[{ accessFlags := 16409, nameIndex := 5, descriptorIndex := 6, attributes := #[] }, { accessFlags := 16409, nameIndex := 9, descriptorIndex := 6, attributes := #[] }, { accessFlags := 4122, nameIndex := 12, descriptorIndex := 13, attributes := #[] }])
  fields := #[{ name := "STOCK", type := (.object "com/example/millwright/millwright/cut/Objective"), accessFlags := 16409, slot := 0, constantValue := 0 }, { name := "TRIM", type := (.object "com/example/millwright/millwright/cut/Objective"), accessFlags := 16409, slot := 1, constantValue := 0 }, { name := "$VALUES", type := (.array (.object "com/example/millwright/millwright/cut/Objective")), accessFlags := 4122, slot := 2, constantValue := 0 }]
  methods := #[k6m0, k6m1]
  instanceTypes := #[(.object "java/lang/String"), .int, .int]
  staticTypes := #[(.object "com/example/millwright/millwright/cut/Objective"), (.object "com/example/millwright/millwright/cut/Objective"), (.array (.object "com/example/millwright/millwright/cut/Objective"))]
  resolved := Array.replicate 114 none
  statics := some 0 }

def pool7 : Array CpInfo := pool [(1, .methodref 2 3), (0, .class_ 4), (0, .nameAndType 5 6), (0, u "java/lang/Object"), (0, u "<init>"), (0, u "()V"), (0, .class_ 8), (0, u "java/util/TreeMap"), (0, .fieldref 10 11), (0, .class_ 12), (0, .nameAndType 13 14), (0, u "com/example/millwright/millwright/cut/Order$Builder"), (0, u "LONGEST_FIRST"), (0, u "Ljava/util/Comparator;"), (0, .methodref 7 16), (0, .nameAndType 5 17), (0, u "(Ljava/util/Comparator;)V"), (0, .fieldref 10 19), (0, .nameAndType 20 21), (0, u "stock"), (0, u "Ljava/util/Map;"), (0, .fieldref 10 23), (0, .nameAndType 24 21), (0, u "counts"), (0, .class_ 26), (0, u "java/lang/Long"), (0, .long 9223372036854775807), (1, .methodref 10 30), (0, .nameAndType 20 31), (0, u "(JJ)Lcom/example/millwright/millwright/cut/Order$Builder;"), (10, .methodref 25 43), (0, .nameAndType 44 45), (0, u "valueOf"), (0, u "(J)Ljava/lang/Long;"), (0, .interfaceMethodref 47 48), (0, .class_ 49), (0, .nameAndType 50 51), (0, u "java/util/Map"), (0, u "getOrDefault"), (0, u "(Ljava/lang/Object;Ljava/lang/Object;)Ljava/lang/Object;"), (0, .methodref 25 53), (0, .nameAndType 54 55), (0, u "longValue"), (0, u "()J"), (0, .long 9223372036854775806), (2, .interfaceMethodref 47 60), (0, .nameAndType 61 51), (0, u "put"), (3, .interfaceMethodref 47 66), (0, .nameAndType 67 68), (0, u "isEmpty"), (0, u "()Z"), (2, .interfaceMethodref 47 72), (0, .nameAndType 73 74), (0, u "keySet"), (0, u "()Ljava/util/Set;"), (0, .interfaceMethodref 76 77), (0, .class_ 78), (0, .nameAndType 79 80), (0, u "java/util/Set"), (0, u "iterator"), (0, u "()Ljava/util/Iterator;"), (0, .interfaceMethodref 82 83), (0, .class_ 84), (0, .nameAndType 85 86), (0, u "java/util/Iterator"), (0, u "next"), (0, u "()Ljava/lang/Object;"), (1, .class_ 90), (1, u "com/example/millwright/millwright/cut/Order"), (2, .interfaceMethodref 47 94), (0, .nameAndType 95 96), (0, u "size"), (0, u "()I"), (0, .interfaceMethodref 47 98), (0, .nameAndType 99 74), (0, u "entrySet"), (0, .interfaceMethodref 82 101), (0, .nameAndType 102 68), (0, u "hasNext"), (0, .class_ 104), (0, u "java/util/Map$Entry"), (0, .interfaceMethodref 103 106), (0, .nameAndType 107 86), (0, u "getKey"), (0, .interfaceMethodref 103 109), (0, .nameAndType 110 86), (0, u "getValue"), (0, .methodref 112 113), (0, .class_ 114), (0, .nameAndType 115 116), (0, u "java/lang/Math"), (0, u "addExact"), (0, u "(JJ)J"), (0, .methodref 112 118), (0, .nameAndType 119 116), (0, u "multiplyExact"), (3, .methodref 88 124), (0, .nameAndType 5 125), (0, u "([J[J[J[J)V"), (11, u "(J)Lcom/example/millwright/millwright/cut/Order$Builder;"), (1, u "piece"), (0, u "build"), (0, u "()Lcom/example/millwright/millwright/cut/Order;")] 35

def k7c0 : Code := { maxStack := 4, maxLocals := 1, code := prog_20_method_1_code, exceptionTable := #[], attributes := #[] }
def k7m0 : Method := { name := "<init>", desc := "()V", sig := { parameters := [], returnType := none }, accessFlags := 1, code := some k7c0 }
def k7c1 : Code := { maxStack := 5, maxLocals := 3, code := prog_20_method_2_code, exceptionTable := #[], attributes := #[] }
def k7m1 : Method := { name := "stock", desc := "(J)Lcom/example/millwright/millwright/cut/Order$Builder;", sig := { parameters := [.long], returnType := some (.object "com/example/millwright/millwright/cut/Order$Builder") }, accessFlags := 1, code := some k7c1 }
def k7c2 : Code := { maxStack := 6, maxLocals := 8, code := prog_20_method_3_code, exceptionTable := #[], attributes := #[] }
def k7m2 : Method := { name := "stock", desc := "(JJ)Lcom/example/millwright/millwright/cut/Order$Builder;", sig := { parameters := [.long, .long], returnType := some (.object "com/example/millwright/millwright/cut/Order$Builder") }, accessFlags := 1, code := some k7c2 }
def k7c3 : Code := { maxStack := 6, maxLocals := 7, code := prog_20_method_4_code, exceptionTable := #[], attributes := #[] }
def k7m3 : Method := { name := "piece", desc := "(JJ)Lcom/example/millwright/millwright/cut/Order$Builder;", sig := { parameters := [.long, .long], returnType := some (.object "com/example/millwright/millwright/cut/Order$Builder") }, accessFlags := 1, code := some k7c3 }
def k7c4 : Code := { maxStack := 6, maxLocals := 15, code := prog_20_method_5_code, exceptionTable := #[{ startPc := 250, endPc := 349, handlerPc := 352, catchType := 120 }], attributes := #[] }
def k7m4 : Method := { name := "build", desc := "()Lcom/example/millwright/millwright/cut/Order;", sig := { parameters := [], returnType := some (.object "com/example/millwright/millwright/cut/Order") }, accessFlags := 1, code := some k7c4 }
/-- com/example/millwright/millwright/cut/Order$Builder -/
def k7 : Class := { plain "com/example/millwright/millwright/cut/Order$Builder" (some 0) with
  accessFlags := 49
  interfaces := #[]
  cf := some (fileOf pool7 10 #[.nestHost 88] #[{ accessFlags := 1, nameIndex := 5, descriptorIndex := 6, attributes := #[] }, { accessFlags := 1, nameIndex := 20, descriptorIndex := 137, attributes := #[] }, { accessFlags := 1, nameIndex := 20, descriptorIndex := 31, attributes := #[] }, { accessFlags := 1, nameIndex := 139, descriptorIndex := 31, attributes := #[] }, { accessFlags := 1, nameIndex := 140, descriptorIndex := 141, attributes := #[] }] 49 2 #[] #[{ accessFlags := 26, nameIndex := 13, descriptorIndex := 14, attributes := #[] }, { accessFlags := 18, nameIndex := 20, descriptorIndex := 21, attributes := #[] }, { accessFlags := 18, nameIndex := 24, descriptorIndex := 21, attributes := #[] }])
  fields := #[{ name := "LONGEST_FIRST", type := (.object "java/util/Comparator"), accessFlags := 26, slot := 0, constantValue := 0 }, { name := "stock", type := (.object "java/util/Map"), accessFlags := 18, slot := 0, constantValue := 0 }, { name := "counts", type := (.object "java/util/Map"), accessFlags := 18, slot := 1, constantValue := 0 }]
  methods := #[k7m0, k7m1, k7m2, k7m3, k7m4]
  instanceTypes := #[(.object "java/util/Map"), (.object "java/util/Map")]
  staticTypes := #[(.object "java/util/Comparator")]
  resolved := Array.replicate 177 none
  statics := some 1 }

def pool8 : Array CpInfo := pool [(1, .interfaceMethodref 2 3), (0, .class_ 4), (0, .nameAndType 5 6), (0, u "java/util/Map"), (0, u "get"), (0, u "(Ljava/lang/Object;)Ljava/lang/Object;"), (0, .interfaceMethodref 2 8), (0, .nameAndType 9 10), (0, u "containsKey"), (0, u "(Ljava/lang/Object;)Z"), (7, u "entrySet"), (0, u "()Ljava/util/Set;"), (11, u "()Z"), (4, .class_ 37), (0, u "java/util/Map$Entry"), (25, u "(Ljava/lang/Object;Ljava/lang/Object;)Ljava/lang/Object;"), (5, u "put"), (23, .class_ 94), (0, u "java/lang/Object"), (10, u "isEmpty"), (14, u "size"), (0, u "()I"), (9, u "keySet"), (6, u "getOrDefault")] 124

def k8m0 : Method := { name := "size", desc := "()I", sig := { parameters := [], returnType := some .int }, accessFlags := 1025, code := none }
def k8m1 : Method := { name := "isEmpty", desc := "()Z", sig := { parameters := [], returnType := some .boolean }, accessFlags := 1025, code := none }
def k8m2 : Method := { name := "containsKey", desc := "(Ljava/lang/Object;)Z", sig := { parameters := [(.object "java/lang/Object")], returnType := some .boolean }, accessFlags := 1025, code := none }
def k8m3 : Method := { name := "get", desc := "(Ljava/lang/Object;)Ljava/lang/Object;", sig := { parameters := [(.object "java/lang/Object")], returnType := some (.object "java/lang/Object") }, accessFlags := 1025, code := none }
def k8m4 : Method := { name := "put", desc := "(Ljava/lang/Object;Ljava/lang/Object;)Ljava/lang/Object;", sig := { parameters := [(.object "java/lang/Object"), (.object "java/lang/Object")], returnType := some (.object "java/lang/Object") }, accessFlags := 1025, code := none }
def k8m5 : Method := { name := "keySet", desc := "()Ljava/util/Set;", sig := { parameters := [], returnType := some (.object "java/util/Set") }, accessFlags := 1025, code := none }
def k8m6 : Method := { name := "entrySet", desc := "()Ljava/util/Set;", sig := { parameters := [], returnType := some (.object "java/util/Set") }, accessFlags := 1025, code := none }
def k8c7 : Code := { maxStack := 2, maxLocals := 4, code := jdk_72_method_15_code, exceptionTable := #[], attributes := #[] }
def k8m7 : Method := { name := "getOrDefault", desc := "(Ljava/lang/Object;Ljava/lang/Object;)Ljava/lang/Object;", sig := { parameters := [(.object "java/lang/Object"), (.object "java/lang/Object")], returnType := some (.object "java/lang/Object") }, accessFlags := 1, code := some k8c7 }
/-- java/util/Map -/
def k8 : Class := { plain "java/util/Map" (some 0) with
  accessFlags := 1537
  interfaces := #[]
  cf := some (fileOf pool8 2 #[.nestMembers #[36]] #[{ accessFlags := 1025, nameIndex := 120, descriptorIndex := 121, attributes := #[] }, { accessFlags := 1025, nameIndex := 105, descriptorIndex := 31, attributes := #[] }, { accessFlags := 1025, nameIndex := 9, descriptorIndex := 10, attributes := #[] }, { accessFlags := 1025, nameIndex := 5, descriptorIndex := 6, attributes := #[] }, { accessFlags := 1025, nameIndex := 69, descriptorIndex := 63, attributes := #[] }, { accessFlags := 1025, nameIndex := 131, descriptorIndex := 19, attributes := #[] }, { accessFlags := 1025, nameIndex := 18, descriptorIndex := 19, attributes := #[] }, { accessFlags := 1, nameIndex := 138, descriptorIndex := 63, attributes := #[] }] 1537 93 #[] #[])
  fields := #[]
  methods := #[k8m0, k8m1, k8m2, k8m3, k8m4, k8m5, k8m6, k8m7]
  instanceTypes := #[]
  staticTypes := #[]
  resolved := Array.replicate 263 none
  statics := none }

def pool9 : Array CpInfo := pool [(1, .methodref 2 3), (0, .class_ 4), (0, .nameAndType 5 6), (0, u "java/lang/Object"), (0, u "<init>"), (0, u "()V"), (1, .class_ 10), (1, u "java/util/AbstractMap"), (4, .nameAndType 17 18), (1, u "size"), (0, u "()I"), (0, .methodref 8 15), (9, u "()Z"), (23, .class_ 54), (0, u "java/util/Map"), (9, u "keySet"), (0, u "Ljava/util/Set;"), (0, .class_ 67), (0, u "java/util/AbstractMap$1"), (5, u "values"), (0, u "Ljava/util/Collection;"), (0, .class_ 76), (0, u "java/util/AbstractMap$2"), (47, u "isEmpty"), (56, .class_ 182), (0, u "java/util/AbstractMap$ViewCollection"), (0, .class_ 184), (0, u "java/util/AbstractMap$SimpleImmutableEntry"), (0, .class_ 186), (0, u "java/util/AbstractMap$SimpleEntry"), (0, .class_ 188), (0, u "java/util/AbstractMap$2$1"), (0, .class_ 190), (0, u "java/util/AbstractMap$1$1")] 5

def k9c0 : Code := { maxStack := 1, maxLocals := 1, code := jdk_71_method_1_code, exceptionTable := #[], attributes := #[] }
def k9m0 : Method := { name := "<init>", desc := "()V", sig := { parameters := [], returnType := none }, accessFlags := 4, code := some k9c0 }
def k9c1 : Code := { maxStack := 1, maxLocals := 1, code := ⟨#[0x2a, 0xb6, 0x00, 0x07, 0xb9, 0x00, 0x0d, 0x01, 0x00, 0xac]⟩, exceptionTable := #[], attributes := #[] }
def k9m1 : Method := { name := "size", desc := "()I", sig := { parameters := [], returnType := some .int }, accessFlags := 1, code := some k9c1 }
def k9c2 : Code := { maxStack := 1, maxLocals := 1, code := jdk_71_method_3_code, exceptionTable := #[], attributes := #[] }
def k9m2 : Method := { name := "isEmpty", desc := "()Z", sig := { parameters := [], returnType := some .boolean }, accessFlags := 1, code := some k9c2 }
/-- java/util/AbstractMap -/
def k9 : Class := { plain "java/util/AbstractMap" (some 0) with
  accessFlags := 1057
  interfaces := #[8]
  cf := some (fileOf pool9 8 #[.nestMembers #[181, 183, 185, 75, 187, 66, 189]] #[{ accessFlags := 4, nameIndex := 5, descriptorIndex := 6, attributes := #[] }, { accessFlags := 1, nameIndex := 17, descriptorIndex := 18, attributes := #[] }, { accessFlags := 1, nameIndex := 124, descriptorIndex := 29, attributes := #[] }] 1057 2 #[53] #[{ accessFlags := 128, nameIndex := 64, descriptorIndex := 65, attributes := #[] }, { accessFlags := 128, nameIndex := 73, descriptorIndex := 74, attributes := #[] }])
  fields := #[{ name := "keySet", type := (.object "java/util/Set"), accessFlags := 128, slot := 0, constantValue := 0 }, { name := "values", type := (.object "java/util/Collection"), accessFlags := 128, slot := 1, constantValue := 0 }]
  methods := #[k9m0, k9m1, k9m2]
  instanceTypes := #[(.object "java/util/Set"), (.object "java/util/Collection")]
  staticTypes := #[]
  resolved := Array.replicate 196 none
  statics := none }

def pool10 : Array CpInfo := pool [(2, .class_ 4), (1, u "java/util/SequencedMap"), (38, .class_ 44), (0, u "java/util/SequencedMap$1SeqKeySet"), (3, .class_ 49), (0, u "java/util/SequencedMap$1SeqValues"), (1, .class_ 52), (0, u "java/util/SequencedMap$1SeqEntrySet"), (1, .class_ 55), (0, u "java/lang/Object"), (0, .class_ 57), (0, u "java/util/Map")] 48

/-- java/util/SequencedMap -/
def k10 : Class := { plain "java/util/SequencedMap" (some 0) with
  accessFlags := 1537
  interfaces := #[8]
  cf := some (fileOf pool10 2 #[.nestMembers #[51, 48, 43]] #[] 1537 54 #[56] #[])
  fields := #[]
  methods := #[]
  instanceTypes := #[]
  staticTypes := #[]
  resolved := Array.replicate 106 none
  statics := none }

def pool11 : Array CpInfo := pool [(14, .class_ 16), (1, u "java/util/SortedMap"), (2, .class_ 20), (0, u "java/lang/Object"), (0, .class_ 22), (0, u "java/util/SequencedMap")] 50

/-- java/util/SortedMap -/
def k11 : Class := { plain "java/util/SortedMap" (some 0) with
  accessFlags := 1537
  interfaces := #[10]
  cf := some (fileOf pool11 14 #[] #[] 1537 19 #[21] #[])
  fields := #[]
  methods := #[]
  instanceTypes := #[]
  staticTypes := #[]
  resolved := Array.replicate 73 none
  statics := none }

def pool12 : Array CpInfo := pool [(2, .class_ 4), (1, u "java/util/NavigableMap"), (5, .class_ 11), (0, u "java/lang/Object"), (0, .class_ 13), (0, u "java/util/SortedMap")] 53

/-- java/util/NavigableMap -/
def k12 : Class := { plain "java/util/NavigableMap" (some 0) with
  accessFlags := 1537
  interfaces := #[11]
  cf := some (fileOf pool12 2 #[] #[] 1537 10 #[12] #[])
  fields := #[]
  methods := #[]
  instanceTypes := #[]
  staticTypes := #[]
  resolved := Array.replicate 67 none
  statics := none }

def pool13 : Array CpInfo := pool [(1, .class_ 2), (0, u "java/lang/Cloneable"), (0, .class_ 4), (0, u "java/lang/Object")] 2

/-- java/lang/Cloneable -/
def k13 : Class := { plain "java/lang/Cloneable" (some 0) with
  accessFlags := 1537
  interfaces := #[]
  cf := some (fileOf pool13 1 #[] #[] 1537 3 #[] #[])
  fields := #[]
  methods := #[]
  instanceTypes := #[]
  staticTypes := #[]
  resolved := Array.replicate 7 none
  statics := none }

def pool14 : Array CpInfo := pool [(1, .methodref 2 3), (0, .class_ 4), (0, .nameAndType 5 6), (0, u "java/util/AbstractMap"), (0, u "<init>"), (0, u "()V"), (0, .fieldref 8 9), (0, .class_ 10), (0, .nameAndType 11 12), (0, u "java/util/TreeMap"), (0, u "size"), (0, u "I"), (0, .fieldref 8 14), (0, .nameAndType 15 12), (0, u "modCount"), (0, .fieldref 8 17), (0, .nameAndType 18 19), (0, u "comparator"), (0, u "Ljava/util/Comparator;"), (11, u "()I"), (2, u "entrySet"), (0, u "()Ljava/util/Set;"), (5, u "()Ljava/util/Iterator;"), (8, .methodref 8 51), (0, .nameAndType 52 53), (0, u "getEntry"), (0, u "(Ljava/lang/Object;)Ljava/util/TreeMap$Entry;"), (0, .methodref 8 55), (0, .nameAndType 56 57), (0, u "getFirstEntry"), (0, u "()Ljava/util/TreeMap$Entry;"), (1, .class_ 61), (1, u "java/util/TreeMap$Entry"), (1, u "Ljava/lang/Object;"), (6, u "successor"), (0, u "(Ljava/util/TreeMap$Entry;)Ljava/util/TreeMap$Entry;"), (20, .methodref 8 93), (0, .nameAndType 94 53), (0, u "getEntryUsingComparator"), (3, u "(Ljava/lang/Object;)Ljava/lang/Object;"), (2, .fieldref 8 102), (0, .nameAndType 103 104), (0, u "root"), (0, u "Ljava/util/TreeMap$Entry;"), (6, .fieldref 59 112), (0, .nameAndType 113 104), (0, u "left"), (0, .fieldref 59 115), (0, .nameAndType 116 104), (0, u "right"), (0, .interfaceMethodref 118 119), (0, .class_ 120), (0, .nameAndType 121 122), (0, u "java/util/Comparator"), (0, u "compare"), (0, u "(Ljava/lang/Object;Ljava/lang/Object;)I"), (0, .methodref 8 119), (0, .fieldref 59 125), (0, .nameAndType 126 104), (0, u "parent"), (0, .methodref 8 128), (0, .nameAndType 129 130), (0, u "put"), (0, u "(Ljava/lang/Object;Ljava/lang/Object;Z)Ljava/lang/Object;"), (4, .methodref 8 136), (0, .nameAndType 137 138), (0, u "addEntryToEmptyMap"), (0, u "(Ljava/lang/Object;Ljava/lang/Object;)V"), (27, u "(Ljava/lang/Object;Ljava/lang/Object;)Ljava/lang/Object;"), (0, .methodref 59 168), (0, .nameAndType 5 169), (0, u "(Ljava/lang/Object;Ljava/lang/Object;Ljava/util/TreeMap$Entry;)V"), (18, .fieldref 8 189), (0, .nameAndType 34 190), (0, u "Ljava/util/TreeMap$EntrySet;"), (0, .fieldref 8 192), (0, .nameAndType 193 194), (0, u "navigableKeySet"), (0, u "Ljava/util/TreeMap$KeySet;"), (2, u "descendingMap"), (0, u "Ljava/util/NavigableMap;"), (20, .methodref 8 220), (0, .nameAndType 193 221), (0, u "()Ljava/util/NavigableSet;"), (0, .class_ 223), (0, u "java/util/TreeMap$KeySet"), (0, .methodref 222 225), (0, .nameAndType 5 226), (0, u "(Ljava/util/NavigableMap;)V"), (4, .class_ 232), (0, u "java/util/NavigableMap"), (4, .class_ 238), (0, u "java/util/TreeMap$Values"), (1, .nameAndType 5 241), (0, u "(Ljava/util/TreeMap;)V"), (0, .class_ 243), (0, u "java/util/TreeMap$EntrySet"), (0, .methodref 242 240), (0, .class_ 246), (0, u "java/util/TreeMap$DescendingSubMap"), (3, .class_ 251), (0, u "java/util/TreeMap$AscendingSubMap"), (17, .class_ 270), (0, u "java/util/TreeMap$KeyIterator"), (0, .methodref 269 272), (0, .nameAndType 5 273), (0, u "(Ljava/util/TreeMap;Ljava/util/TreeMap$Entry;)V"), (0, .class_ 275), (0, u "java/util/TreeMap$DescendingKeyIterator"), (5, u "(Ljava/lang/Object;)Z"), (11, u "Z"), (94, .class_ 389), (0, u "java/util/TreeMap$NavigableSubMap"), (1, .class_ 392), (0, u "java/util/TreeMap$KeySpliterator"), (3, .class_ 397), (0, u "java/util/TreeMap$DescendingKeySpliterator"), (4, u "UNBOUNDED"), (0, .class_ 404), (0, u "java/lang/Cloneable"), (0, .class_ 406), (0, u "java/io/Serializable"), (6, u "RED"), (2, u "BLACK"), (1, u "serialVersionUID"), (0, u "J"), (8, u "(Ljava/util/Comparator;)V"), (11, u "containsKey"), (2, u "get"), (75, u "keySet"), (41, u "keyIterator"), (72, .class_ 635), (0, u "java/util/TreeMap$EntrySpliterator"), (0, .class_ 637), (0, u "java/util/TreeMap$ValueSpliterator"), (0, .class_ 639), (0, u "java/util/TreeMap$TreeMapSpliterator"), (0, .class_ 641), (0, u "java/util/TreeMap$SubMap"), (0, .class_ 643), (0, u "java/util/TreeMap$DescendingSubMap$DescendingEntrySetView"), (0, .class_ 645), (0, u "java/util/TreeMap$AscendingSubMap$AscendingEntrySetView"), (0, .class_ 647), (0, u "java/util/TreeMap$NavigableSubMap$DescendingSubMapKeyIterator"), (0, .class_ 649), (0, u "java/util/TreeMap$NavigableSubMap$SubMapKeyIterator"), (0, .class_ 651), (0, u "java/util/TreeMap$NavigableSubMap$DescendingSubMapEntryIterator"), (0, .class_ 653), (0, u "java/util/TreeMap$NavigableSubMap$SubMapEntryIterator"), (0, .class_ 655), (0, u "java/util/TreeMap$NavigableSubMap$SubMapIterator"), (0, .class_ 657), (0, u "java/util/TreeMap$NavigableSubMap$EntrySetView"), (0, .class_ 659), (0, u "java/util/TreeMap$ValueIterator"), (0, .class_ 661), (0, u "java/util/TreeMap$EntryIterator"), (0, .class_ 663), (0, u "java/util/TreeMap$PrivateEntryIterator")] 28

def k14m0 : Method := { name := "<init>", desc := "()V", sig := { parameters := [], returnType := none }, accessFlags := 1, code := none }
def k14c1 : Code := { maxStack := 2, maxLocals := 2, code := jdk_2729_method_2_code, exceptionTable := #[], attributes := #[] }
def k14m1 : Method := { name := "<init>", desc := "(Ljava/util/Comparator;)V", sig := { parameters := [(.object "java/util/Comparator")], returnType := none }, accessFlags := 1, code := some k14c1 }
def k14c2 : Code := { maxStack := 1, maxLocals := 1, code := jdk_2729_method_5_code, exceptionTable := #[], attributes := #[] }
def k14m2 : Method := { name := "size", desc := "()I", sig := { parameters := [], returnType := some .int }, accessFlags := 1, code := some k14c2 }
def k14c3 : Code := { maxStack := 2, maxLocals := 2, code := jdk_2729_method_6_code, exceptionTable := #[], attributes := #[] }
def k14m3 : Method := { name := "containsKey", desc := "(Ljava/lang/Object;)Z", sig := { parameters := [(.object "java/lang/Object")], returnType := some .boolean }, accessFlags := 1, code := some k14c3 }
def k14c4 : Code := { maxStack := 2, maxLocals := 3, code := jdk_2729_method_8_code, exceptionTable := #[], attributes := #[] }
def k14m4 : Method := { name := "get", desc := "(Ljava/lang/Object;)Ljava/lang/Object;", sig := { parameters := [(.object "java/lang/Object")], returnType := some (.object "java/lang/Object") }, accessFlags := 1, code := some k14c4 }
def k14c5 : Code := { maxStack := 2, maxLocals := 5, code := jdk_2729_method_15_code, exceptionTable := #[], attributes := #[] }
def k14m5 : Method := { name := "getEntry", desc := "(Ljava/lang/Object;)Ljava/util/TreeMap$Entry;", sig := { parameters := [(.object "java/lang/Object")], returnType := some (.object "java/util/TreeMap$Entry") }, accessFlags := 16, code := some k14c5 }
def k14c6 : Code := { maxStack := 3, maxLocals := 6, code := jdk_2729_method_16_code, exceptionTable := #[], attributes := #[] }
def k14m6 : Method := { name := "getEntryUsingComparator", desc := "(Ljava/lang/Object;)Ljava/util/TreeMap$Entry;", sig := { parameters := [(.object "java/lang/Object")], returnType := some (.object "java/util/TreeMap$Entry") }, accessFlags := 16, code := some k14c6 }
def k14c7 : Code := { maxStack := 4, maxLocals := 3, code := jdk_2729_method_21_code, exceptionTable := #[], attributes := #[] }
def k14m7 : Method := { name := "put", desc := "(Ljava/lang/Object;Ljava/lang/Object;)Ljava/lang/Object;", sig := { parameters := [(.object "java/lang/Object"), (.object "java/lang/Object")], returnType := some (.object "java/lang/Object") }, accessFlags := 1, code := some k14c7 }
def k14c8 : Code := { maxStack := 6, maxLocals := 3, code := jdk_2729_method_30_code, exceptionTable := #[], attributes := #[] }
def k14m8 : Method := { name := "addEntryToEmptyMap", desc := "(Ljava/lang/Object;Ljava/lang/Object;)V", sig := { parameters := [(.object "java/lang/Object"), (.object "java/lang/Object")], returnType := none }, accessFlags := 2, code := some k14c8 }
def k14c9 : Code := { maxStack := 5, maxLocals := 10, code := jdk_2729_method_31_code, exceptionTable := #[], attributes := #[] }
def k14m9 : Method := { name := "put", desc := "(Ljava/lang/Object;Ljava/lang/Object;Z)Ljava/lang/Object;", sig := { parameters := [(.object "java/lang/Object"), (.object "java/lang/Object"), .boolean], returnType := some (.object "java/lang/Object") }, accessFlags := 2, code := some k14c9 }
def k14c10 : Code := { maxStack := 1, maxLocals := 1, code := jdk_2729_method_49_code, exceptionTable := #[], attributes := #[] }
def k14m10 : Method := { name := "keySet", desc := "()Ljava/util/Set;", sig := { parameters := [], returnType := some (.object "java/util/Set") }, accessFlags := 1, code := some k14c10 }
def k14c11 : Code := { maxStack := 4, maxLocals := 2, code := jdk_2729_method_50_code, exceptionTable := #[], attributes := #[] }
def k14m11 : Method := { name := "navigableKeySet", desc := "()Ljava/util/NavigableSet;", sig := { parameters := [], returnType := some (.object "java/util/NavigableSet") }, accessFlags := 1, code := some k14c11 }
def k14c12 : Code := { maxStack := 4, maxLocals := 2, code := jdk_2729_method_53_code, exceptionTable := #[], attributes := #[] }
def k14m12 : Method := { name := "entrySet", desc := "()Ljava/util/Set;", sig := { parameters := [], returnType := some (.object "java/util/Set") }, accessFlags := 1, code := some k14c12 }
def k14c13 : Code := { maxStack := 4, maxLocals := 1, code := jdk_2729_method_65_code, exceptionTable := #[], attributes := #[] }
def k14m13 : Method := { name := "keyIterator", desc := "()Ljava/util/Iterator;", sig := { parameters := [], returnType := some (.object "java/util/Iterator") }, accessFlags := 0, code := some k14c13 }
def k14c14 : Code := { maxStack := 3, maxLocals := 3, code := jdk_2729_method_67_code, exceptionTable := #[], attributes := #[] }
def k14m14 : Method := { name := "compare", desc := "(Ljava/lang/Object;Ljava/lang/Object;)I", sig := { parameters := [(.object "java/lang/Object"), (.object "java/lang/Object")], returnType := some .int }, accessFlags := 16, code := some k14c14 }
def k14c15 : Code := { maxStack := 1, maxLocals := 2, code := jdk_2729_method_72_code, exceptionTable := #[], attributes := #[] }
def k14m15 : Method := { name := "getFirstEntry", desc := "()Ljava/util/TreeMap$Entry;", sig := { parameters := [], returnType := some (.object "java/util/TreeMap$Entry") }, accessFlags := 16, code := some k14c15 }
def k14c16 : Code := { maxStack := 2, maxLocals := 3, code := jdk_2729_method_74_code, exceptionTable := #[], attributes := #[] }
def k14m16 : Method := { name := "successor", desc := "(Ljava/util/TreeMap$Entry;)Ljava/util/TreeMap$Entry;", sig := { parameters := [(.object "java/util/TreeMap$Entry")], returnType := some (.object "java/util/TreeMap$Entry") }, accessFlags := 8, code := some k14c16 }
/-- java/util/TreeMap -/
def k14 : Class := { plain "java/util/TreeMap" (some 9) with
  accessFlags := 33
  interfaces := #[12, 13, 4]
  cf := some (fileOf pool14 8 #[.nestMembers #[634, 636, 396, 391, 638, 59, 640, 245, 642, 250, 644, 388, 646, 648, 650, 652, 654, 656, 274, 269, 658, 660, 662, 222, 242, 237]] #[{ accessFlags := 1, nameIndex := 5, descriptorIndex := 6, attributes := #[] }, { accessFlags := 1, nameIndex := 5, descriptorIndex := 428, attributes := #[] }, { accessFlags := 1, nameIndex := 11, descriptorIndex := 31, attributes := #[] }, { accessFlags := 1, nameIndex := 440, descriptorIndex := 281, attributes := #[] }, { accessFlags := 1, nameIndex := 443, descriptorIndex := 98, attributes := #[] }, { accessFlags := 16, nameIndex := 52, descriptorIndex := 53, attributes := #[] }, { accessFlags := 16, nameIndex := 94, descriptorIndex := 53, attributes := #[] }, { accessFlags := 1, nameIndex := 129, descriptorIndex := 166, attributes := #[] }, { accessFlags := 2, nameIndex := 137, descriptorIndex := 138, attributes := #[] }, { accessFlags := 2, nameIndex := 129, descriptorIndex := 130, attributes := #[] }, { accessFlags := 1, nameIndex := 519, descriptorIndex := 35, attributes := #[] }, { accessFlags := 1, nameIndex := 193, descriptorIndex := 221, attributes := #[] }, { accessFlags := 1, nameIndex := 34, descriptorIndex := 35, attributes := #[] }, { accessFlags := 0, nameIndex := 561, descriptorIndex := 41, attributes := #[] }, { accessFlags := 16, nameIndex := 121, descriptorIndex := 122, attributes := #[] }, { accessFlags := 16, nameIndex := 56, descriptorIndex := 57, attributes := #[] }, { accessFlags := 8, nameIndex := 70, descriptorIndex := 71, attributes := #[] }] 33 2 #[231, 403, 405] #[{ accessFlags := 18, nameIndex := 18, descriptorIndex := 19, attributes := #[] }, { accessFlags := 130, nameIndex := 103, descriptorIndex := 104, attributes := #[] }, { accessFlags := 130, nameIndex := 11, descriptorIndex := 12, attributes := #[] }, { accessFlags := 130, nameIndex := 15, descriptorIndex := 12, attributes := #[] }, { accessFlags := 130, nameIndex := 34, descriptorIndex := 190, attributes := #[] }, { accessFlags := 130, nameIndex := 193, descriptorIndex := 194, attributes := #[] }, { accessFlags := 130, nameIndex := 197, descriptorIndex := 198, attributes := #[] }, { accessFlags := 26, nameIndex := 402, descriptorIndex := 63, attributes := #[] }, { accessFlags := 26, nameIndex := 413, descriptorIndex := 293, attributes := #[] }, { accessFlags := 26, nameIndex := 416, descriptorIndex := 293, attributes := #[] }, { accessFlags := 26, nameIndex := 418, descriptorIndex := 419, attributes := #[] }])
  fields := #[{ name := "comparator", type := (.object "java/util/Comparator"), accessFlags := 18, slot := 2, constantValue := 0 }, { name := "root", type := (.object "java/util/TreeMap$Entry"), accessFlags := 130, slot := 3, constantValue := 0 }, { name := "size", type := .int, accessFlags := 130, slot := 4, constantValue := 0 }, { name := "modCount", type := .int, accessFlags := 130, slot := 5, constantValue := 0 }, { name := "entrySet", type := (.object "java/util/TreeMap$EntrySet"), accessFlags := 130, slot := 6, constantValue := 0 }, { name := "navigableKeySet", type := (.object "java/util/TreeMap$KeySet"), accessFlags := 130, slot := 7, constantValue := 0 }, { name := "descendingMap", type := (.object "java/util/NavigableMap"), accessFlags := 130, slot := 8, constantValue := 0 }, { name := "UNBOUNDED", type := (.object "java/lang/Object"), accessFlags := 26, slot := 0, constantValue := 0 }, { name := "RED", type := .boolean, accessFlags := 26, slot := 1, constantValue := 0 }, { name := "BLACK", type := .boolean, accessFlags := 26, slot := 2, constantValue := 0 }, { name := "serialVersionUID", type := .long, accessFlags := 26, slot := 3, constantValue := 0 }]
  methods := #[k14m0, k14m1, k14m2, k14m3, k14m4, k14m5, k14m6, k14m7, k14m8, k14m9, k14m10, k14m11, k14m12, k14m13, k14m14, k14m15, k14m16]
  instanceTypes := #[(.object "java/util/Set"), (.object "java/util/Collection"), (.object "java/util/Comparator"), (.object "java/util/TreeMap$Entry"), .int, .int, (.object "java/util/TreeMap$EntrySet"), (.object "java/util/TreeMap$KeySet"), (.object "java/util/NavigableMap")]
  staticTypes := #[(.object "java/lang/Object"), .boolean, .boolean, .long]
  resolved := Array.replicate 692 none
  statics := none }

def pool15 : Array CpInfo := pool [(1, .methodref 2 3), (0, .class_ 4), (0, .nameAndType 5 6), (0, u "java/lang/Object"), (0, u "<init>"), (0, u "()V"), (1, .class_ 10), (1, u "java/lang/Number"), (2, .class_ 14), (0, u "java/io/Serializable"), (0, u "serialVersionUID"), (0, u "J")] 20

def k15c0 : Code := { maxStack := 1, maxLocals := 1, code := jdk_18_method_1_code, exceptionTable := #[], attributes := #[] }
def k15m0 : Method := { name := "<init>", desc := "()V", sig := { parameters := [], returnType := none }, accessFlags := 1, code := some k15c0 }
/-- java/lang/Number -/
def k15 : Class := { plain "java/lang/Number" (some 0) with
  accessFlags := 1057
  interfaces := #[4]
  cf := some (fileOf pool15 8 #[] #[{ accessFlags := 1, nameIndex := 5, descriptorIndex := 6, attributes := #[] }] 1057 2 #[13] #[{ accessFlags := 26, nameIndex := 15, descriptorIndex := 16, attributes := #[] }])
  fields := #[{ name := "serialVersionUID", type := .long, accessFlags := 26, slot := 0, constantValue := 0 }]
  methods := #[k15m0]
  instanceTypes := #[]
  staticTypes := #[.long]
  resolved := Array.replicate 37 none
  statics := none }

def pool16 : Array CpInfo := pool [(1, .class_ 2), (0, u "java/lang/constant/ConstantDesc"), (0, .class_ 4), (0, u "java/lang/Object")] 32

/-- java/lang/constant/ConstantDesc -/
def k16 : Class := { plain "java/lang/constant/ConstantDesc" (some 0) with
  accessFlags := 1537
  interfaces := #[]
  cf := some (fileOf pool16 1 #[] #[] 1537 3 #[] #[])
  fields := #[]
  methods := #[]
  instanceTypes := #[]
  staticTypes := #[]
  resolved := Array.replicate 37 none
  statics := none }

def pool17 : Array CpInfo := pool [(1, .class_ 2), (0, u "java/lang/Long"), (55, .nameAndType 59 60), (0, u "<init>"), (0, u "()V"), (24, u "valueOf"), (143, u "(J)Ljava/lang/Long;"), (0, .long 18446744073709551488), (1, .long 127), (1, .fieldref 235 236), (0, .class_ 237), (0, .nameAndType 238 239), (0, u "java/lang/Long$LongCache"), (0, u "cache"), (0, u "[Ljava/lang/Long;"), (0, .methodref 1 241), (0, .nameAndType 59 242), (0, u "(J)V"), (27, .methodref 271 58), (0, .class_ 272), (0, u "java/lang/Number"), (0, .fieldref 1 274), (0, .nameAndType 275 276), (0, u "value"), (0, u "J"), (5, u "longValue"), (0, u "()J"), (18, .methodref 1 303), (0, .nameAndType 304 305), (0, u "compare"), (0, u "(JJ)I"), (37, .methodref 1 344), (0, .nameAndType 345 346), (0, u "compareTo"), (0, u "(Ljava/lang/Long;)I"), (14, u "TYPE"), (0, u "Ljava/lang/Class;"), (0, .class_ 364), (0, u "java/lang/Comparable"), (0, .class_ 366), (0, u "java/lang/constant/Constable"), (0, .class_ 368), (0, u "java/lang/constant/ConstantDesc"), (0, u "MIN_VALUE"), (1, u "MAX_VALUE"), (4, u "SIZE"), (0, u "I"), (1, u "BYTES"), (1, u "serialVersionUID"), (124, u "(Ljava/lang/Object;)I")] 17

def k17c0 : Code := { maxStack := 4, maxLocals := 3, code := jdk_35_method_24_code, exceptionTable := #[], attributes := #[] }
def k17m0 : Method := { name := "valueOf", desc := "(J)Ljava/lang/Long;", sig := { parameters := [.long], returnType := some (.object "java/lang/Long") }, accessFlags := 9, code := some k17c0 }
def k17c1 : Code := { maxStack := 3, maxLocals := 3, code := jdk_35_method_26_code, exceptionTable := #[], attributes := #[] }
def k17m1 : Method := { name := "<init>", desc := "(J)V", sig := { parameters := [.long], returnType := none }, accessFlags := 1, code := some k17c1 }
def k17c2 : Code := { maxStack := 2, maxLocals := 1, code := jdk_35_method_31_code, exceptionTable := #[], attributes := #[] }
def k17m2 : Method := { name := "longValue", desc := "()J", sig := { parameters := [], returnType := some .long }, accessFlags := 1, code := some k17c2 }
def k17c3 : Code := { maxStack := 4, maxLocals := 2, code := jdk_35_method_41_code, exceptionTable := #[], attributes := #[] }
def k17m3 : Method := { name := "compareTo", desc := "(Ljava/lang/Long;)I", sig := { parameters := [(.object "java/lang/Long")], returnType := some .int }, accessFlags := 1, code := some k17c3 }
def k17c4 : Code := { maxStack := 4, maxLocals := 4, code := jdk_35_method_42_code, exceptionTable := #[], attributes := #[] }
def k17m4 : Method := { name := "compare", desc := "(JJ)I", sig := { parameters := [.long, .long], returnType := some .int }, accessFlags := 9, code := some k17c4 }
def k17c5 : Code := { maxStack := 2, maxLocals := 2, code := jdk_35_method_64_code, exceptionTable := #[], attributes := #[] }
def k17m5 : Method := { name := "compareTo", desc := "(Ljava/lang/Object;)I", sig := { parameters := [(.object "java/lang/Object")], returnType := some .int }, accessFlags := 4161, code := some k17c5 }
/-- java/lang/Long -/
def k17 : Class := { plain "java/lang/Long" (some 15) with
  accessFlags := 49
  interfaces := #[3, 2, 16]
  cf := some (fileOf pool17 1 #[.nestMembers #[235]] #[{ accessFlags := 9, nameIndex := 85, descriptorIndex := 229, attributes := #[] }, { accessFlags := 1, nameIndex := 59, descriptorIndex := 242, attributes := #[] }, { accessFlags := 1, nameIndex := 282, descriptorIndex := 283, attributes := #[] }, { accessFlags := 1, nameIndex := 345, descriptorIndex := 346, attributes := #[] }, { accessFlags := 9, nameIndex := 304, descriptorIndex := 305, attributes := #[] }, { accessFlags := 4161, nameIndex := 345, descriptorIndex := 506, attributes := #[] }] 49 271 #[363, 365, 367] #[{ accessFlags := 25, nameIndex := 369, descriptorIndex := 276, attributes := #[] }, { accessFlags := 25, nameIndex := 371, descriptorIndex := 276, attributes := #[] }, { accessFlags := 25, nameIndex := 361, descriptorIndex := 362, attributes := #[] }, { accessFlags := 18, nameIndex := 275, descriptorIndex := 276, attributes := #[] }, { accessFlags := 25, nameIndex := 376, descriptorIndex := 377, attributes := #[] }, { accessFlags := 25, nameIndex := 379, descriptorIndex := 377, attributes := #[] }, { accessFlags := 26, nameIndex := 381, descriptorIndex := 276, attributes := #[] }])
  fields := #[{ name := "MIN_VALUE", type := .long, accessFlags := 25, slot := 0, constantValue := 0 }, { name := "MAX_VALUE", type := .long, accessFlags := 25, slot := 1, constantValue := 0 }, { name := "TYPE", type := (.object "java/lang/Class"), accessFlags := 25, slot := 2, constantValue := 0 }, { name := "value", type := .long, accessFlags := 18, slot := 0, constantValue := 0 }, { name := "SIZE", type := .int, accessFlags := 25, slot := 3, constantValue := 0 }, { name := "BYTES", type := .int, accessFlags := 25, slot := 4, constantValue := 0 }, { name := "serialVersionUID", type := .long, accessFlags := 26, slot := 5, constantValue := 0 }]
  methods := #[k17m0, k17m1, k17m2, k17m3, k17m4, k17m5]
  instanceTypes := #[.long]
  staticTypes := #[.long, .long, (.object "java/lang/Class"), .int, .int, .long]
  resolved := Array.replicate 524 none
  statics := none }

def pool18 : Array CpInfo := pool [(2, .class_ 4), (1, u "java/lang/Object"), (0, u "<init>"), (0, u "()V"), (0, .class_ 8), (0, u "java/lang/Long"), (7, .class_ 18), (1, u "java/lang/Long$LongCache"), (0, u "$assertionsDisabled"), (0, u "Z"), (8, u "archivedCache"), (0, u "[Ljava/lang/Long;"), (7, u "cache")] 24

def k18m0 : Method := { name := "<init>", desc := "()V", sig := { parameters := [], returnType := none }, accessFlags := 2, code := none }
/-- java/lang/Long$LongCache -/
def k18 : Class := { plain "java/lang/Long$LongCache" (some 0) with
  accessFlags := 48
  interfaces := #[]
  cf := some (fileOf pool18 16 #[.nestHost 7] #[{ accessFlags := 2, nameIndex := 5, descriptorIndex := 6, attributes := #[] }] 48 2 #[] #[{ accessFlags := 24, nameIndex := 38, descriptorIndex := 30, attributes := #[] }, { accessFlags := 8, nameIndex := 29, descriptorIndex := 30, attributes := #[] }, { accessFlags := 4120, nameIndex := 19, descriptorIndex := 20, attributes := #[] }])
  fields := #[{ name := "cache", type := (.array (.object "java/lang/Long")), accessFlags := 24, slot := 0, constantValue := 0 }, { name := "archivedCache", type := (.array (.object "java/lang/Long")), accessFlags := 8, slot := 1, constantValue := 0 }, { name := "$assertionsDisabled", type := .boolean, accessFlags := 4120, slot := 2, constantValue := 0 }]
  methods := #[k18m0]
  instanceTypes := #[]
  staticTypes := #[(.array (.object "java/lang/Long")), (.array (.object "java/lang/Long")), .boolean]
  resolved := Array.replicate 63 none
  statics := some 2 }

def pool19 : Array CpInfo := pool [(15, u "compare"), (3, .class_ 20), (0, u "java/util/Comparator"), (84, .class_ 106), (0, u "java/lang/Object"), (8, u "(Ljava/lang/Object;Ljava/lang/Object;)I")] 172

def k19m0 : Method := { name := "compare", desc := "(Ljava/lang/Object;Ljava/lang/Object;)I", sig := { parameters := [(.object "java/lang/Object"), (.object "java/lang/Object")], returnType := some .int }, accessFlags := 1025, code := none }
/-- java/util/Comparator -/
def k19 : Class := { plain "java/util/Comparator" (some 0) with
  accessFlags := 1537
  interfaces := #[]
  cf := some (fileOf pool19 19 #[] #[{ accessFlags := 1025, nameIndex := 15, descriptorIndex := 115, attributes := #[] }] 1537 105 #[] #[])
  fields := #[]
  methods := #[k19m0]
  instanceTypes := #[]
  staticTypes := #[]
  resolved := Array.replicate 288 none
  statics := none }

def pool20 : Array CpInfo := pool [(2, .class_ 4), (1, u "java/lang/Object"), (0, u "<init>"), (0, u "()V"), (0, .interfaceMethodref 8 9), (0, .class_ 10), (0, .nameAndType 11 12), (0, u "java/lang/Comparable"), (0, u "compareTo"), (0, u "(Ljava/lang/Object;)I"), (1, .class_ 16), (1, u "java/util/Collections"), (3, .class_ 22), (1, u "java/util/Comparator"), (1, .methodref 25 26), (0, .class_ 27), (0, .nameAndType 28 29), (0, u "java/util/Collections$ReverseComparator"), (0, u "compare"), (0, u "(Ljava/lang/Comparable;Ljava/lang/Comparable;)I"), (3, u "REVERSE_ORDER"), (0, u "Ljava/util/Collections$ReverseComparator;"), (0, .class_ 36), (0, u "java/io/Serializable"), (0, u "serialVersionUID"), (0, u "J"), (18, u "(Ljava/lang/Object;Ljava/lang/Object;)I")] 8

def k20m0 : Method := { name := "<init>", desc := "()V", sig := { parameters := [], returnType := none }, accessFlags := 2, code := none }
def k20c1 : Code := { maxStack := 2, maxLocals := 3, code := jdk_2483_method_2_code, exceptionTable := #[], attributes := #[] }
def k20m1 : Method := { name := "compare", desc := "(Ljava/lang/Comparable;Ljava/lang/Comparable;)I", sig := { parameters := [(.object "java/lang/Comparable"), (.object "java/lang/Comparable")], returnType := some .int }, accessFlags := 1, code := some k20c1 }
def k20c2 : Code := { maxStack := 3, maxLocals := 3, code := jdk_2483_method_5_code, exceptionTable := #[], attributes := #[] }
def k20m2 : Method := { name := "compare", desc := "(Ljava/lang/Object;Ljava/lang/Object;)I", sig := { parameters := [(.object "java/lang/Object"), (.object "java/lang/Object")], returnType := some .int }, accessFlags := 4161, code := some k20c2 }
/-- java/util/Collections$ReverseComparator -/
def k20 : Class := { plain "java/util/Collections$ReverseComparator" (some 0) with
  accessFlags := 32
  interfaces := #[19, 4]
  cf := some (fileOf pool20 25 #[.nestHost 14] #[{ accessFlags := 2, nameIndex := 5, descriptorIndex := 6, attributes := #[] }, { accessFlags := 1, nameIndex := 28, descriptorIndex := 29, attributes := #[] }, { accessFlags := 4161, nameIndex := 28, descriptorIndex := 57, attributes := #[] }] 32 2 #[20, 35] #[{ accessFlags := 26, nameIndex := 37, descriptorIndex := 38, attributes := #[] }, { accessFlags := 24, nameIndex := 33, descriptorIndex := 34, attributes := #[] }])
  fields := #[{ name := "serialVersionUID", type := .long, accessFlags := 26, slot := 0, constantValue := 0 }, { name := "REVERSE_ORDER", type := (.object "java/util/Collections$ReverseComparator"), accessFlags := 24, slot := 1, constantValue := 0 }]
  methods := #[k20m0, k20m1, k20m2]
  instanceTypes := #[]
  staticTypes := #[.long, (.object "java/util/Collections$ReverseComparator")]
  resolved := Array.replicate 66 none
  statics := none }

def pool21 : Array CpInfo := pool [(23, .class_ 25), (1, u "java/util/Map$Entry"), (0, u "getKey"), (0, u "()Ljava/lang/Object;"), (2, u "getValue"), (1, .class_ 34), (1, u "java/util/Map"), (34, .class_ 70), (0, u "java/lang/Object")] 107

def k21m0 : Method := { name := "getKey", desc := "()Ljava/lang/Object;", sig := { parameters := [], returnType := some (.object "java/lang/Object") }, accessFlags := 1025, code := none }
def k21m1 : Method := { name := "getValue", desc := "()Ljava/lang/Object;", sig := { parameters := [], returnType := some (.object "java/lang/Object") }, accessFlags := 1025, code := none }
/-- java/util/Map$Entry -/
def k21 : Class := { plain "java/util/Map$Entry" (some 0) with
  accessFlags := 1537
  interfaces := #[]
  cf := some (fileOf pool21 23 #[.nestHost 32] #[{ accessFlags := 1025, nameIndex := 26, descriptorIndex := 27, attributes := #[] }, { accessFlags := 1025, nameIndex := 30, descriptorIndex := 27, attributes := #[] }] 1537 69 #[] #[])
  fields := #[]
  methods := #[k21m0, k21m1]
  instanceTypes := #[]
  staticTypes := #[]
  resolved := Array.replicate 178 none
  statics := none }

def pool22 : Array CpInfo := pool [(1, .class_ 2), (0, u "java/util/TreeMap"), (0, .methodref 4 5), (0, .class_ 6), (0, .nameAndType 7 8), (0, u "java/lang/Object"), (0, u "<init>"), (0, u "()V"), (0, .fieldref 10 11), (0, .class_ 12), (0, .nameAndType 13 14), (0, u "java/util/TreeMap$Entry"), (0, u "color"), (0, u "Z"), (0, .fieldref 10 16), (0, .nameAndType 17 18), (0, u "key"), (0, u "Ljava/lang/Object;"), (0, .fieldref 10 20), (0, .nameAndType 21 18), (0, u "value"), (0, .fieldref 10 23), (0, .nameAndType 24 25), (0, u "parent"), (0, u "Ljava/util/TreeMap$Entry;"), (0, .class_ 27), (0, u "java/util/Map$Entry"), (2, u "getKey"), (0, u "()Ljava/lang/Object;"), (6, u "getValue"), (23, u "left"), (1, u "right"), (0, u "(Ljava/lang/Object;Ljava/lang/Object;Ljava/util/TreeMap$Entry;)V")] 30

def k22c0 : Code := { maxStack := 2, maxLocals := 4, code := jdk_2736_method_1_code, exceptionTable := #[], attributes := #[] }
def k22m0 : Method := { name := "<init>", desc := "(Ljava/lang/Object;Ljava/lang/Object;Ljava/util/TreeMap$Entry;)V", sig := { parameters := [(.object "java/lang/Object"), (.object "java/lang/Object"), (.object "java/util/TreeMap$Entry")], returnType := none }, accessFlags := 0, code := some k22c0 }
def k22c1 : Code := { maxStack := 1, maxLocals := 1, code := jdk_2736_method_2_code, exceptionTable := #[], attributes := #[] }
def k22m1 : Method := { name := "getKey", desc := "()Ljava/lang/Object;", sig := { parameters := [], returnType := some (.object "java/lang/Object") }, accessFlags := 1, code := some k22c1 }
def k22c2 : Code := { maxStack := 1, maxLocals := 1, code := jdk_2736_method_3_code, exceptionTable := #[], attributes := #[] }
def k22m2 : Method := { name := "getValue", desc := "()Ljava/lang/Object;", sig := { parameters := [], returnType := some (.object "java/lang/Object") }, accessFlags := 1, code := some k22c2 }
/-- java/util/TreeMap$Entry -/
def k22 : Class := { plain "java/util/TreeMap$Entry" (some 0) with
  accessFlags := 48
  interfaces := #[21]
  cf := some (fileOf pool22 10 #[.nestHost 1] #[{ accessFlags := 0, nameIndex := 7, descriptorIndex := 65, attributes := #[] }, { accessFlags := 1, nameIndex := 30, descriptorIndex := 31, attributes := #[] }, { accessFlags := 1, nameIndex := 38, descriptorIndex := 31, attributes := #[] }] 48 4 #[26] #[{ accessFlags := 0, nameIndex := 17, descriptorIndex := 18, attributes := #[] }, { accessFlags := 0, nameIndex := 21, descriptorIndex := 18, attributes := #[] }, { accessFlags := 0, nameIndex := 62, descriptorIndex := 25, attributes := #[] }, { accessFlags := 0, nameIndex := 64, descriptorIndex := 25, attributes := #[] }, { accessFlags := 0, nameIndex := 24, descriptorIndex := 25, attributes := #[] }, { accessFlags := 0, nameIndex := 13, descriptorIndex := 14, attributes := #[] }])
  fields := #[{ name := "key", type := (.object "java/lang/Object"), accessFlags := 0, slot := 0, constantValue := 0 }, { name := "value", type := (.object "java/lang/Object"), accessFlags := 0, slot := 1, constantValue := 0 }, { name := "left", type := (.object "java/util/TreeMap$Entry"), accessFlags := 0, slot := 2, constantValue := 0 }, { name := "right", type := (.object "java/util/TreeMap$Entry"), accessFlags := 0, slot := 3, constantValue := 0 }, { name := "parent", type := (.object "java/util/TreeMap$Entry"), accessFlags := 0, slot := 4, constantValue := 0 }, { name := "color", type := .boolean, accessFlags := 0, slot := 5, constantValue := 0 }]
  methods := #[k22m0, k22m1, k22m2]
  instanceTypes := #[(.object "java/lang/Object"), (.object "java/lang/Object"), (.object "java/util/TreeMap$Entry"), (.object "java/util/TreeMap$Entry"), (.object "java/util/TreeMap$Entry"), .boolean]
  staticTypes := #[]
  resolved := Array.replicate 96 none
  statics := none }

def pool23 : Array CpInfo := pool [(8, .class_ 10), (1, u "java/lang/Iterable"), (24, .class_ 36), (0, u "java/lang/Object")] 25

/-- java/lang/Iterable -/
def k23 : Class := { plain "java/lang/Iterable" (some 0) with
  accessFlags := 1537
  interfaces := #[]
  cf := some (fileOf pool23 8 #[] #[] 1537 35 #[] #[])
  fields := #[]
  methods := #[]
  instanceTypes := #[]
  staticTypes := #[]
  resolved := Array.replicate 62 none
  statics := none }

def pool24 : Array CpInfo := pool [(10, .class_ 12), (1, u "java/util/Collection"), (47, .class_ 61), (0, u "java/lang/Object"), (0, .class_ 63), (0, u "java/lang/Iterable")] 51

/-- java/util/Collection -/
def k24 : Class := { plain "java/util/Collection" (some 0) with
  accessFlags := 1537
  interfaces := #[23]
  cf := some (fileOf pool24 10 #[] #[] 1537 60 #[62] #[])
  fields := #[]
  methods := #[]
  instanceTypes := #[]
  staticTypes := #[]
  resolved := Array.replicate 115 none
  statics := none }

def pool25 : Array CpInfo := pool [(1, .methodref 2 3), (0, .class_ 4), (0, .nameAndType 5 6), (0, u "java/lang/Object"), (0, u "<init>"), (0, u "()V"), (1, .class_ 10), (1, u "java/util/AbstractCollection"), (66, .class_ 78), (0, u "java/util/Collection")] 81

def k25c0 : Code := { maxStack := 1, maxLocals := 1, code := jdk_22_method_1_code, exceptionTable := #[], attributes := #[] }
def k25m0 : Method := { name := "<init>", desc := "()V", sig := { parameters := [], returnType := none }, accessFlags := 4, code := some k25c0 }
/-- java/util/AbstractCollection -/
def k25 : Class := { plain "java/util/AbstractCollection" (some 0) with
  accessFlags := 1057
  interfaces := #[24]
  cf := some (fileOf pool25 8 #[] #[{ accessFlags := 4, nameIndex := 5, descriptorIndex := 6, attributes := #[] }] 1057 2 #[77] #[])
  fields := #[]
  methods := #[k25m0]
  instanceTypes := #[]
  staticTypes := #[]
  resolved := Array.replicate 160 none
  statics := none }

def pool26 : Array CpInfo := pool [(26, .class_ 27), (0, u "java/lang/Object"), (5, .class_ 34), (0, u "java/util/Set"), (1, .class_ 38), (1, u "java/util/Collection"), (22, u "iterator"), (0, u "()Ljava/util/Iterator;")] 81

def k26m0 : Method := { name := "iterator", desc := "()Ljava/util/Iterator;", sig := { parameters := [], returnType := some (.object "java/util/Iterator") }, accessFlags := 1025, code := none }
/-- java/util/Set -/
def k26 : Class := { plain "java/util/Set" (some 0) with
  accessFlags := 1537
  interfaces := #[24]
  cf := some (fileOf pool26 33 #[] #[{ accessFlags := 1025, nameIndex := 61, descriptorIndex := 62, attributes := #[] }] 1537 26 #[36] #[])
  fields := #[]
  methods := #[k26m0]
  instanceTypes := #[]
  staticTypes := #[]
  resolved := Array.replicate 144 none
  statics := none }

def pool27 : Array CpInfo := pool [(1, .methodref 2 3), (0, .class_ 4), (0, .nameAndType 5 6), (0, u "java/util/AbstractCollection"), (0, u "<init>"), (0, u "()V"), (0, .class_ 8), (0, u "java/util/Set"), (7, .class_ 17), (0, u "java/util/AbstractSet")] 78

def k27c0 : Code := { maxStack := 1, maxLocals := 1, code := jdk_91_method_1_code, exceptionTable := #[], attributes := #[] }
def k27m0 : Method := { name := "<init>", desc := "()V", sig := { parameters := [], returnType := none }, accessFlags := 4, code := some k27c0 }
/-- java/util/AbstractSet -/
def k27 : Class := { plain "java/util/AbstractSet" (some 25) with
  accessFlags := 1057
  interfaces := #[26]
  cf := some (fileOf pool27 16 #[] #[{ accessFlags := 4, nameIndex := 5, descriptorIndex := 6, attributes := #[] }] 1057 2 #[7] #[])
  fields := #[]
  methods := #[k27m0]
  instanceTypes := #[]
  staticTypes := #[]
  resolved := Array.replicate 96 none
  statics := none }

def pool28 : Array CpInfo := pool [(8, .class_ 10), (1, u "java/util/SequencedCollection"), (15, .class_ 27), (0, u "java/lang/Object"), (0, .class_ 29), (0, u "java/util/Collection")] 27

/-- java/util/SequencedCollection -/
def k28 : Class := { plain "java/util/SequencedCollection" (some 0) with
  accessFlags := 1537
  interfaces := #[24]
  cf := some (fileOf pool28 8 #[] #[] 1537 26 #[28] #[])
  fields := #[]
  methods := #[]
  instanceTypes := #[]
  staticTypes := #[]
  resolved := Array.replicate 57 none
  statics := none }

def pool29 : Array CpInfo := pool [(2, .class_ 4), (1, u "java/util/SequencedSet"), (2, .class_ 8), (0, u "java/lang/Object"), (0, .class_ 10), (0, u "java/util/SequencedCollection"), (0, .class_ 12), (0, u "java/util/Set")] 13

/-- java/util/SequencedSet -/
def k29 : Class := { plain "java/util/SequencedSet" (some 0) with
  accessFlags := 1537
  interfaces := #[28, 26]
  cf := some (fileOf pool29 2 #[] #[] 1537 7 #[9, 11] #[])
  fields := #[]
  methods := #[]
  instanceTypes := #[]
  staticTypes := #[]
  resolved := Array.replicate 26 none
  statics := none }

def pool30 : Array CpInfo := pool [(1, .class_ 2), (0, u "java/util/SortedSet$1"), (12, .class_ 17), (1, u "java/util/SortedSet"), (19, .class_ 38), (0, u "java/lang/Object"), (0, .class_ 40), (0, u "java/util/Set"), (0, .class_ 42), (0, u "java/util/SequencedSet")] 41

/-- java/util/SortedSet -/
def k30 : Class := { plain "java/util/SortedSet" (some 0) with
  accessFlags := 1537
  interfaces := #[26, 29]
  cf := some (fileOf pool30 15 #[.nestMembers #[1]] #[] 1537 37 #[39, 41] #[])
  fields := #[]
  methods := #[]
  instanceTypes := #[]
  staticTypes := #[]
  resolved := Array.replicate 84 none
  statics := none }

def pool31 : Array CpInfo := pool [(2, .class_ 4), (1, u "java/util/NavigableSet"), (22, .class_ 28), (0, u "java/lang/Object"), (0, .class_ 30), (0, u "java/util/SortedSet")] 40

/-- java/util/NavigableSet -/
def k31 : Class := { plain "java/util/NavigableSet" (some 0) with
  accessFlags := 1537
  interfaces := #[30]
  cf := some (fileOf pool31 2 #[] #[] 1537 27 #[29] #[])
  fields := #[]
  methods := #[]
  instanceTypes := #[]
  staticTypes := #[]
  resolved := Array.replicate 71 none
  statics := none }

def pool32 : Array CpInfo := pool [(1, .methodref 2 3), (0, .class_ 4), (0, .nameAndType 5 6), (0, u "java/util/AbstractSet"), (0, u "<init>"), (0, u "()V"), (0, .fieldref 8 9), (0, .class_ 10), (0, .nameAndType 11 12), (0, u "java/util/TreeMap$KeySet"), (0, u "m"), (0, u "Ljava/util/NavigableMap;"), (0, .class_ 14), (0, u "java/util/TreeMap"), (0, .methodref 13 16), (0, .nameAndType 17 18), (0, u "keyIterator"), (0, u "()Ljava/util/Iterator;"), (70, u "(Ljava/util/NavigableMap;)V"), (26, .class_ 117), (0, u "java/util/NavigableSet"), (11, u "iterator")] 53

def k32c0 : Code := { maxStack := 2, maxLocals := 2, code := jdk_2741_method_1_code, exceptionTable := #[], attributes := #[] }
def k32m0 : Method := { name := "<init>", desc := "(Ljava/util/NavigableMap;)V", sig := { parameters := [(.object "java/util/NavigableMap")], returnType := none }, accessFlags := 0, code := some k32c0 }
def k32c1 : Code := { maxStack := 1, maxLocals := 1, code := jdk_2741_method_2_code, exceptionTable := #[], attributes := #[] }
def k32m1 : Method := { name := "iterator", desc := "()Ljava/util/Iterator;", sig := { parameters := [], returnType := some (.object "java/util/Iterator") }, accessFlags := 1, code := some k32c1 }
/-- java/util/TreeMap$KeySet -/
def k32 : Class := { plain "java/util/TreeMap$KeySet" (some 27) with
  accessFlags := 48
  interfaces := #[31]
  cf := some (fileOf pool32 8 #[.nestHost 13] #[{ accessFlags := 0, nameIndex := 5, descriptorIndex := 89, attributes := #[] }, { accessFlags := 1, nameIndex := 129, descriptorIndex := 18, attributes := #[] }] 48 2 #[116] #[{ accessFlags := 18, nameIndex := 11, descriptorIndex := 12, attributes := #[] }])
  fields := #[{ name := "m", type := (.object "java/util/NavigableMap"), accessFlags := 18, slot := 0, constantValue := 0 }]
  methods := #[k32m0, k32m1]
  instanceTypes := #[(.object "java/util/NavigableMap")]
  staticTypes := #[]
  resolved := Array.replicate 183 none
  statics := none }

def pool33 : Array CpInfo := pool [(16, .class_ 18), (1, u "java/util/Iterator"), (0, u "hasNext"), (0, u "()Z"), (2, u "next"), (0, u "()Ljava/lang/Object;"), (6, .class_ 32), (0, u "java/lang/Object")] 20

def k33m0 : Method := { name := "hasNext", desc := "()Z", sig := { parameters := [], returnType := some .boolean }, accessFlags := 1025, code := none }
def k33m1 : Method := { name := "next", desc := "()Ljava/lang/Object;", sig := { parameters := [], returnType := some (.object "java/lang/Object") }, accessFlags := 1025, code := none }
/-- java/util/Iterator -/
def k33 : Class := { plain "java/util/Iterator" (some 0) with
  accessFlags := 1537
  interfaces := #[]
  cf := some (fileOf pool33 16 #[] #[{ accessFlags := 1025, nameIndex := 19, descriptorIndex := 20, attributes := #[] }, { accessFlags := 1025, nameIndex := 23, descriptorIndex := 24, attributes := #[] }] 1537 31 #[] #[])
  fields := #[]
  methods := #[k33m0, k33m1]
  instanceTypes := #[]
  staticTypes := #[]
  resolved := Array.replicate 53 none
  statics := none }

def pool34 : Array CpInfo := pool [(1, .fieldref 2 3), (0, .class_ 4), (0, .nameAndType 5 6), (0, u "java/util/TreeMap$PrivateEntryIterator"), (0, u "this$0"), (0, u "Ljava/util/TreeMap;"), (0, .methodref 8 9), (0, .class_ 10), (0, .nameAndType 11 12), (0, u "java/lang/Object"), (0, u "<init>"), (0, u "()V"), (0, .fieldref 14 15), (0, .class_ 16), (0, .nameAndType 17 18), (0, u "java/util/TreeMap"), (0, u "modCount"), (0, u "I"), (0, .fieldref 2 20), (0, .nameAndType 21 18), (0, u "expectedModCount"), (0, .fieldref 2 23), (0, .nameAndType 24 25), (0, u "lastReturned"), (0, u "Ljava/util/TreeMap$Entry;"), (0, .fieldref 2 27), (0, .nameAndType 28 25), (0, u "next"), (6, .methodref 14 36), (0, .nameAndType 37 38), (0, u "successor"), (0, u "(Ljava/util/TreeMap$Entry;)Ljava/util/TreeMap$Entry;"), (18, .class_ 58), (0, u "java/util/Iterator"), (2, u "(Ljava/util/TreeMap;Ljava/util/TreeMap$Entry;)V"), (10, u "hasNext"), (0, u "()Z"), (1, u "nextEntry"), (0, u "()Ljava/util/TreeMap$Entry;")] 11

def k34c0 : Code := { maxStack := 2, maxLocals := 3, code := jdk_2750_method_1_code, exceptionTable := #[], attributes := #[] }
def k34m0 : Method := { name := "<init>", desc := "(Ljava/util/TreeMap;Ljava/util/TreeMap$Entry;)V", sig := { parameters := [(.object "java/util/TreeMap"), (.object "java/util/TreeMap$Entry")], returnType := none }, accessFlags := 0, code := some k34c0 }
def k34c1 : Code := { maxStack := 1, maxLocals := 1, code := jdk_2750_method_2_code, exceptionTable := #[], attributes := #[] }
def k34m1 : Method := { name := "hasNext", desc := "()Z", sig := { parameters := [], returnType := some .boolean }, accessFlags := 17, code := some k34c1 }
def k34c2 : Code := { maxStack := 2, maxLocals := 2, code := jdk_2750_method_3_code, exceptionTable := #[], attributes := #[] }
def k34m2 : Method := { name := "nextEntry", desc := "()Ljava/util/TreeMap$Entry;", sig := { parameters := [], returnType := some (.object "java/util/TreeMap$Entry") }, accessFlags := 16, code := some k34c2 }
/-- java/util/TreeMap$PrivateEntryIterator -/
def k34 : Class := { plain "java/util/TreeMap$PrivateEntryIterator" (some 0) with
  accessFlags := 1056
  interfaces := #[33]
  cf := some (fileOf pool34 2 #[.nestHost 14] #[{ accessFlags := 0, nameIndex := 11, descriptorIndex := 61, attributes := #[] }, { accessFlags := 17, nameIndex := 72, descriptorIndex := 73, attributes := #[] }, { accessFlags := 16, nameIndex := 75, descriptorIndex := 76, attributes := #[] }] 1056 8 #[57] #[{ accessFlags := 0, nameIndex := 28, descriptorIndex := 25, attributes := #[] }, { accessFlags := 0, nameIndex := 24, descriptorIndex := 25, attributes := #[] }, { accessFlags := 0, nameIndex := 21, descriptorIndex := 18, attributes := #[] }, { accessFlags := 4112, nameIndex := 5, descriptorIndex := 6, attributes := #[] }])
  fields := #[{ name := "next", type := (.object "java/util/TreeMap$Entry"), accessFlags := 0, slot := 0, constantValue := 0 }, { name := "lastReturned", type := (.object "java/util/TreeMap$Entry"), accessFlags := 0, slot := 1, constantValue := 0 }, { name := "expectedModCount", type := .int, accessFlags := 0, slot := 2, constantValue := 0 }, { name := "this$0", type := (.object "java/util/TreeMap"), accessFlags := 4112, slot := 3, constantValue := 0 }]
  methods := #[k34m0, k34m1, k34m2]
  instanceTypes := #[(.object "java/util/TreeMap$Entry"), (.object "java/util/TreeMap$Entry"), .int, (.object "java/util/TreeMap")]
  staticTypes := #[]
  resolved := (Array.replicate 88 none).set! 13 (some (.field 14 3))
  statics := none }

def pool35 : Array CpInfo := pool [(1, .methodref 2 3), (0, .class_ 4), (0, .nameAndType 5 6), (0, u "java/util/TreeMap$PrivateEntryIterator"), (0, u "<init>"), (0, u "(Ljava/util/TreeMap;Ljava/util/TreeMap$Entry;)V"), (0, .methodref 8 9), (0, .class_ 10), (0, .nameAndType 11 12), (0, u "java/util/TreeMap$KeyIterator"), (0, u "nextEntry"), (0, u "()Ljava/util/TreeMap$Entry;"), (0, .fieldref 14 15), (0, .class_ 16), (0, .nameAndType 17 18), (0, u "java/util/TreeMap$Entry"), (0, u "key"), (0, u "Ljava/lang/Object;"), (15, u "next"), (0, u "()Ljava/lang/Object;"), (5, .class_ 42), (0, u "java/util/TreeMap")] 4

def k35c0 : Code := { maxStack := 3, maxLocals := 3, code := jdk_2740_method_1_code, exceptionTable := #[], attributes := #[] }
def k35m0 : Method := { name := "<init>", desc := "(Ljava/util/TreeMap;Ljava/util/TreeMap$Entry;)V", sig := { parameters := [(.object "java/util/TreeMap"), (.object "java/util/TreeMap$Entry")], returnType := none }, accessFlags := 0, code := some k35c0 }
def k35c1 : Code := { maxStack := 1, maxLocals := 1, code := jdk_2740_method_2_code, exceptionTable := #[], attributes := #[] }
def k35m1 : Method := { name := "next", desc := "()Ljava/lang/Object;", sig := { parameters := [], returnType := some (.object "java/lang/Object") }, accessFlags := 1, code := some k35c1 }
/-- java/util/TreeMap$KeyIterator -/
def k35 : Class := { plain "java/util/TreeMap$KeyIterator" (some 34) with
  accessFlags := 48
  interfaces := #[]
  cf := some (fileOf pool35 8 #[.nestHost 41] #[{ accessFlags := 0, nameIndex := 5, descriptorIndex := 6, attributes := #[] }, { accessFlags := 1, nameIndex := 34, descriptorIndex := 35, attributes := #[] }] 48 2 #[] #[])
  fields := #[]
  methods := #[k35m0, k35m1]
  instanceTypes := #[(.object "java/util/TreeMap$Entry"), (.object "java/util/TreeMap$Entry"), .int, (.object "java/util/TreeMap")]
  staticTypes := #[]
  resolved := Array.replicate 47 none
  statics := none }

def pool36 : Array CpInfo := pool [(1, .fieldref 2 3), (0, .class_ 4), (0, .nameAndType 5 6), (0, u "java/util/TreeMap$EntrySet"), (0, u "this$0"), (0, u "Ljava/util/TreeMap;"), (0, .methodref 8 9), (0, .class_ 10), (0, .nameAndType 11 12), (0, u "java/util/AbstractSet"), (0, u "<init>"), (0, u "()V"), (0, .class_ 14), (0, u "java/util/TreeMap$EntryIterator"), (0, .methodref 16 17), (0, .class_ 18), (0, .nameAndType 19 20), (0, u "java/util/TreeMap"), (0, u "getFirstEntry"), (0, u "()Ljava/util/TreeMap$Entry;"), (0, .methodref 13 22), (0, .nameAndType 11 23), (0, u "(Ljava/util/TreeMap;Ljava/util/TreeMap$Entry;)V"), (36, u "(Ljava/util/TreeMap;)V"), (8, u "iterator"), (0, u "()Ljava/util/Iterator;")] 31

def k36c0 : Code := { maxStack := 2, maxLocals := 2, code := jdk_2738_method_1_code, exceptionTable := #[], attributes := #[] }
def k36m0 : Method := { name := "<init>", desc := "(Ljava/util/TreeMap;)V", sig := { parameters := [(.object "java/util/TreeMap")], returnType := none }, accessFlags := 0, code := some k36c0 }
def k36c1 : Code := { maxStack := 4, maxLocals := 1, code := jdk_2738_method_2_code, exceptionTable := #[], attributes := #[] }
def k36m1 : Method := { name := "iterator", desc := "()Ljava/util/Iterator;", sig := { parameters := [], returnType := some (.object "java/util/Iterator") }, accessFlags := 1, code := some k36c1 }
/-- java/util/TreeMap$EntrySet -/
def k36 : Class := { plain "java/util/TreeMap$EntrySet" (some 27) with
  accessFlags := 32
  interfaces := #[]
  cf := some (fileOf pool36 2 #[.nestHost 16] #[{ accessFlags := 0, nameIndex := 11, descriptorIndex := 60, attributes := #[] }, { accessFlags := 1, nameIndex := 69, descriptorIndex := 70, attributes := #[] }] 32 8 #[] #[{ accessFlags := 4112, nameIndex := 5, descriptorIndex := 6, attributes := #[] }])
  fields := #[{ name := "this$0", type := (.object "java/util/TreeMap"), accessFlags := 4112, slot := 0, constantValue := 0 }]
  methods := #[k36m0, k36m1]
  instanceTypes := #[(.object "java/util/TreeMap")]
  staticTypes := #[]
  resolved := Array.replicate 102 none
  statics := none }

def pool37 : Array CpInfo := pool [(1, .methodref 2 3), (0, .class_ 4), (0, .nameAndType 5 6), (0, u "java/util/TreeMap$PrivateEntryIterator"), (0, u "<init>"), (0, u "(Ljava/util/TreeMap;Ljava/util/TreeMap$Entry;)V"), (0, .methodref 8 9), (0, .class_ 10), (0, .nameAndType 11 12), (0, u "java/util/TreeMap$EntryIterator"), (0, u "nextEntry"), (0, u "()Ljava/util/TreeMap$Entry;"), (0, .methodref 8 14), (0, .nameAndType 15 16), (0, u "next"), (0, u "()Ljava/util/Map$Entry;"), (16, u "()Ljava/lang/Object;"), (4, .class_ 39), (0, u "java/util/TreeMap")] 10

def k37c0 : Code := { maxStack := 3, maxLocals := 3, code := jdk_2737_method_1_code, exceptionTable := #[], attributes := #[] }
def k37m0 : Method := { name := "<init>", desc := "(Ljava/util/TreeMap;Ljava/util/TreeMap$Entry;)V", sig := { parameters := [(.object "java/util/TreeMap"), (.object "java/util/TreeMap$Entry")], returnType := none }, accessFlags := 0, code := some k37c0 }
def k37c1 : Code := { maxStack := 1, maxLocals := 1, code := jdk_2737_method_2_code, exceptionTable := #[], attributes := #[] }
def k37m1 : Method := { name := "next", desc := "()Ljava/util/Map$Entry;", sig := { parameters := [], returnType := some (.object "java/util/Map$Entry") }, accessFlags := 1, code := some k37c1 }
def k37c2 : Code := { maxStack := 1, maxLocals := 1, code := jdk_2737_method_3_code, exceptionTable := #[], attributes := #[] }
def k37m2 : Method := { name := "next", desc := "()Ljava/lang/Object;", sig := { parameters := [], returnType := some (.object "java/lang/Object") }, accessFlags := 4161, code := some k37c2 }
/-- java/util/TreeMap$EntryIterator -/
def k37 : Class := { plain "java/util/TreeMap$EntryIterator" (some 34) with
  accessFlags := 48
  interfaces := #[]
  cf := some (fileOf pool37 8 #[.nestHost 38] #[{ accessFlags := 0, nameIndex := 5, descriptorIndex := 6, attributes := #[] }, { accessFlags := 1, nameIndex := 15, descriptorIndex := 16, attributes := #[] }, { accessFlags := 4161, nameIndex := 15, descriptorIndex := 33, attributes := #[] }] 48 2 #[] #[])
  fields := #[]
  methods := #[k37m0, k37m1, k37m2]
  instanceTypes := #[(.object "java/util/TreeMap$Entry"), (.object "java/util/TreeMap$Entry"), .int, (.object "java/util/TreeMap")]
  staticTypes := #[]
  resolved := Array.replicate 50 none
  statics := none }

def pool38 : Array CpInfo := pool [(1, .class_ 2), (0, u "java/lang/Math"), (1, .class_ 6), (1, u "java/lang/Object"), (0, u "<init>"), (0, u "()V"), (89, .class_ 100), (1, u "java/lang/Math$RandomNumberGeneratorHolder"), (19, u "multiplyExact"), (0, u "(JJ)J"), (0, .methodref 1 123), (0, .nameAndType 124 125), (0, u "abs"), (0, u "(J)J"), (2, .long 9223372036854775808), (43, u "negativeZeroFloatBits"), (0, u "J"), (2, u "negativeZeroDoubleBits"), (68, u "$assertionsDisabled"), (0, u "Z"), (91, u "twoToTheDoubleScaleDown"), (0, u "D"), (4, u "twoToTheDoubleScaleUp"), (9, u "E"), (3, u "PI"), (2, u "TAU"), (2, u "DEGREES_TO_RADIANS"), (0, u "RADIANS_TO_DEGREES"), (27, u "addExact")] 66

def k38m0 : Method := { name := "<init>", desc := "()V", sig := { parameters := [], returnType := none }, accessFlags := 2, code := none }
def k38c1 : Code := { maxStack := 6, maxLocals := 6, code := jdk_29_method_25_code, exceptionTable := #[], attributes := #[] }
def k38m1 : Method := { name := "addExact", desc := "(JJ)J", sig := { parameters := [.long, .long], returnType := some .long }, accessFlags := 9, code := some k38c1 }
def k38c2 : Code := { maxStack := 4, maxLocals := 10, code := jdk_29_method_30_code, exceptionTable := #[], attributes := #[] }
def k38m2 : Method := { name := "multiplyExact", desc := "(JJ)J", sig := { parameters := [.long, .long], returnType := some .long }, accessFlags := 9, code := some k38c2 }
def k38c3 : Code := { maxStack := 4, maxLocals := 2, code := jdk_29_method_61_code, exceptionTable := #[], attributes := #[] }
def k38m3 : Method := { name := "abs", desc := "(J)J", sig := { parameters := [.long], returnType := some .long }, accessFlags := 9, code := some k38c3 }
/-- java/lang/Math -/
def k38 : Class := { plain "java/lang/Math" (some 0) with
  accessFlags := 49
  interfaces := #[]
  cf := some (fileOf pool38 1 #[.nestMembers #[98]] #[{ accessFlags := 2, nameIndex := 7, descriptorIndex := 8, attributes := #[] }, { accessFlags := 9, nameIndex := 393, descriptorIndex := 121, attributes := #[] }, { accessFlags := 9, nameIndex := 120, descriptorIndex := 121, attributes := #[] }, { accessFlags := 9, nameIndex := 124, descriptorIndex := 125, attributes := #[] }] 49 4 #[] #[{ accessFlags := 25, nameIndex := 354, descriptorIndex := 339, attributes := #[] }, { accessFlags := 25, nameIndex := 358, descriptorIndex := 339, attributes := #[] }, { accessFlags := 25, nameIndex := 361, descriptorIndex := 339, attributes := #[] }, { accessFlags := 26, nameIndex := 364, descriptorIndex := 339, attributes := #[] }, { accessFlags := 26, nameIndex := 365, descriptorIndex := 339, attributes := #[] }, { accessFlags := 26, nameIndex := 172, descriptorIndex := 173, attributes := #[] }, { accessFlags := 26, nameIndex := 176, descriptorIndex := 173, attributes := #[] }, { accessFlags := 8, nameIndex := 344, descriptorIndex := 339, attributes := #[] }, { accessFlags := 8, nameIndex := 338, descriptorIndex := 339, attributes := #[] }, { accessFlags := 4120, nameIndex := 245, descriptorIndex := 246, attributes := #[] }])
  fields := #[{ name := "E", type := .double, accessFlags := 25, slot := 0, constantValue := 0 }, { name := "PI", type := .double, accessFlags := 25, slot := 1, constantValue := 0 }, { name := "TAU", type := .double, accessFlags := 25, slot := 2, constantValue := 0 }, { name := "DEGREES_TO_RADIANS", type := .double, accessFlags := 26, slot := 3, constantValue := 0 }, { name := "RADIANS_TO_DEGREES", type := .double, accessFlags := 26, slot := 4, constantValue := 0 }, { name := "negativeZeroFloatBits", type := .long, accessFlags := 26, slot := 5, constantValue := 0 }, { name := "negativeZeroDoubleBits", type := .long, accessFlags := 26, slot := 6, constantValue := 0 }, { name := "twoToTheDoubleScaleUp", type := .double, accessFlags := 8, slot := 7, constantValue := 0 }, { name := "twoToTheDoubleScaleDown", type := .double, accessFlags := 8, slot := 8, constantValue := 0 }, { name := "$assertionsDisabled", type := .boolean, accessFlags := 4120, slot := 9, constantValue := 0 }]
  methods := #[k38m0, k38m1, k38m2, k38m3]
  instanceTypes := #[]
  staticTypes := #[.double, .double, .double, .double, .double, .long, .long, .double, .double, .boolean]
  resolved := Array.replicate 460 none
  statics := none }

def pool39 : Array CpInfo := pool [(1, .methodref 2 3), (0, .class_ 4), (0, .nameAndType 5 6), (0, u "java/lang/Object"), (0, u "<init>"), (0, u "()V"), (0, .fieldref 8 9), (0, .class_ 10), (0, .nameAndType 11 12), (0, u "com/example/millwright/millwright/cut/Order"), (0, u "stockLength"), (0, u "[J"), (0, .fieldref 8 14), (0, .nameAndType 15 12), (0, u "available"), (0, .fieldref 8 17), (0, .nameAndType 18 12), (0, u "length"), (0, .fieldref 8 20), (0, .nameAndType 21 12), (0, u "count"), (8, u "([J[J[J[J)V"), (4, u "(I)J"), (13, .class_ 50), (0, u "com/example/millwright/millwright/cut/Order$Builder")] 16

def k39c0 : Code := { maxStack := 2, maxLocals := 5, code := prog_19_method_1_code, exceptionTable := #[], attributes := #[] }
def k39m0 : Method := { name := "<init>", desc := "([J[J[J[J)V", sig := { parameters := [(.array .long), (.array .long), (.array .long), (.array .long)], returnType := none }, accessFlags := 2, code := some k39c0 }
def k39c1 : Code := { maxStack := 2, maxLocals := 2, code := prog_19_method_3_code, exceptionTable := #[], attributes := #[] }
def k39m1 : Method := { name := "stockLength", desc := "(I)J", sig := { parameters := [.int], returnType := some .long }, accessFlags := 1, code := some k39c1 }
def k39c2 : Code := { maxStack := 2, maxLocals := 2, code := prog_19_method_9_code, exceptionTable := #[], attributes := #[] }
def k39m2 : Method := { name := "length", desc := "(I)J", sig := { parameters := [.int], returnType := some .long }, accessFlags := 1, code := some k39c2 }
/-- com/example/millwright/millwright/cut/Order -/
def k39 : Class := { plain "com/example/millwright/millwright/cut/Order" (some 0) with
  accessFlags := 49
  interfaces := #[]
  cf := some (fileOf pool39 8 #[.nestMembers #[49]] #[{ accessFlags := 2, nameIndex := 5, descriptorIndex := 30, attributes := #[] }, { accessFlags := 1, nameIndex := 11, descriptorIndex := 35, attributes := #[] }, { accessFlags := 1, nameIndex := 18, descriptorIndex := 35, attributes := #[] }] 49 2 #[] #[{ accessFlags := 18, nameIndex := 11, descriptorIndex := 12, attributes := #[] }, { accessFlags := 18, nameIndex := 15, descriptorIndex := 12, attributes := #[] }, { accessFlags := 18, nameIndex := 18, descriptorIndex := 12, attributes := #[] }, { accessFlags := 18, nameIndex := 21, descriptorIndex := 12, attributes := #[] }])
  fields := #[{ name := "stockLength", type := (.array .long), accessFlags := 18, slot := 0, constantValue := 0 }, { name := "available", type := (.array .long), accessFlags := 18, slot := 1, constantValue := 0 }, { name := "length", type := (.array .long), accessFlags := 18, slot := 2, constantValue := 0 }, { name := "count", type := (.array .long), accessFlags := 18, slot := 3, constantValue := 0 }]
  methods := #[k39m0, k39m1, k39m2]
  instanceTypes := #[(.array .long), (.array .long), (.array .long), (.array .long)]
  staticTypes := #[]
  resolved := Array.replicate 67 none
  statics := none }

def pool40 : Array CpInfo := pool [(1, .methodref 2 3), (0, .class_ 4), (0, .nameAndType 5 6), (0, u "java/lang/Object"), (0, u "<init>"), (0, u "()V"), (0, .fieldref 8 9), (0, .class_ 10), (0, .nameAndType 11 12), (0, u "com/example/millwright/millwright/cut/Pattern"), (0, u "stock"), (0, u "I"), (0, .fieldref 8 14), (0, .nameAndType 15 16), (0, u "counts"), (0, u "[J"), (0, .methodref 18 19), (0, .class_ 20), (0, .nameAndType 21 22), (0, u "java/util/Arrays"), (0, u "hashCode"), (0, u "([J)I"), (0, .fieldref 8 24), (0, .nameAndType 25 12), (0, u "hash"), (0, .methodref 27 28), (0, .class_ 29), (0, .nameAndType 30 31), (0, u "com/example/millwright/millwright/cut/Order"), (0, u "length"), (0, u "(I)J"), (0, .methodref 33 34), (0, .class_ 35), (0, .nameAndType 36 37), (0, u "java/lang/Math"), (0, u "multiplyExact"), (0, u "(JJ)J"), (0, .methodref 33 39), (0, .nameAndType 40 37), (0, u "addExact"), (0, .methodref 27 42), (0, .nameAndType 43 31), (0, u "stockLength"), (0, .methodref 8 45), (0, .nameAndType 46 47), (0, u "usedLength"), (0, u "(Lcom/example/millwright/millwright/cut/Order;)J"), (8, u "(I[J)V"), (8, u "trim")] 5

def k40c0 : Code := { maxStack := 3, maxLocals := 3, code := prog_23_method_1_code, exceptionTable := #[], attributes := #[] }
def k40m0 : Method := { name := "<init>", desc := "(I[J)V", sig := { parameters := [.int, (.array .long)], returnType := none }, accessFlags := 0, code := some k40c0 }
def k40c1 : Code := { maxStack := 6, maxLocals := 5, code := prog_23_method_5_code, exceptionTable := #[], attributes := #[] }
def k40m1 : Method := { name := "usedLength", desc := "(Lcom/example/millwright/millwright/cut/Order;)J", sig := { parameters := [(.object "com/example/millwright/millwright/cut/Order")], returnType := some .long }, accessFlags := 1, code := some k40c1 }
def k40c2 : Code := { maxStack := 4, maxLocals := 2, code := prog_23_method_6_code, exceptionTable := #[], attributes := #[] }
def k40m2 : Method := { name := "trim", desc := "(Lcom/example/millwright/millwright/cut/Order;)J", sig := { parameters := [(.object "com/example/millwright/millwright/cut/Order")], returnType := some .long }, accessFlags := 1, code := some k40c2 }
/-- com/example/millwright/millwright/cut/Pattern -/
def k40 : Class := { plain "com/example/millwright/millwright/cut/Pattern" (some 0) with
  accessFlags := 49
  interfaces := #[]
  cf := some (fileOf pool40 8 #[] #[{ accessFlags := 0, nameIndex := 5, descriptorIndex := 56, attributes := #[] }, { accessFlags := 1, nameIndex := 46, descriptorIndex := 47, attributes := #[] }, { accessFlags := 1, nameIndex := 65, descriptorIndex := 47, attributes := #[] }] 49 2 #[] #[{ accessFlags := 18, nameIndex := 11, descriptorIndex := 12, attributes := #[] }, { accessFlags := 18, nameIndex := 15, descriptorIndex := 16, attributes := #[] }, { accessFlags := 18, nameIndex := 25, descriptorIndex := 12, attributes := #[] }])
  fields := #[{ name := "stock", type := .int, accessFlags := 18, slot := 0, constantValue := 0 }, { name := "counts", type := (.array .long), accessFlags := 18, slot := 1, constantValue := 0 }, { name := "hash", type := .int, accessFlags := 18, slot := 2, constantValue := 0 }]
  methods := #[k40m0, k40m1, k40m2]
  instanceTypes := #[.int, (.array .long), .int]
  staticTypes := #[]
  resolved := Array.replicate 71 none
  statics := none }

def pool41 : Array CpInfo := pool [(2, .class_ 4), (1, u "java/lang/Object"), (0, u "<init>"), (0, u "()V"), (7, .class_ 16), (1, u "java/util/Arrays"), (57, .class_ 76), (1, u "java/util/Arrays$NaturalOrder"), (36, .class_ 115), (1, u "java/util/Arrays$LegacyMergeSort"), (1, u "Z"), (257, .class_ 376), (0, u "java/util/Arrays$ArrayList"), (8, u "hashCode"), (28, u "([J)I"), (30, u "$assertionsDisabled"), (269, u "MIN_ARRAY_SORT_GRAN"), (0, u "I"), (2, u "INSERTIONSORT_THRESHOLD"), (255, .class_ 976), (0, u "java/util/Arrays$ArrayItr")] 52

def k41m0 : Method := { name := "<init>", desc := "()V", sig := { parameters := [], returnType := none }, accessFlags := 2, code := none }
def k41c1 : Code := { maxStack := 5, maxLocals := 8, code := jdk_65_method_149_code, exceptionTable := #[], attributes := #[] }
def k41m1 : Method := { name := "hashCode", desc := "([J)I", sig := { parameters := [(.array .long)], returnType := some .int }, accessFlags := 9, code := some k41c1 }
/-- java/util/Arrays -/
def k41 : Class := { plain "java/util/Arrays" (some 0) with
  accessFlags := 49
  interfaces := #[]
  cf := some (fileOf pool41 14 #[.nestMembers #[975, 375, 113, 74]] #[{ accessFlags := 2, nameIndex := 5, descriptorIndex := 6, attributes := #[] }, { accessFlags := 9, nameIndex := 385, descriptorIndex := 414, attributes := #[] }] 49 2 #[] #[{ accessFlags := 26, nameIndex := 715, descriptorIndex := 716, attributes := #[] }, { accessFlags := 26, nameIndex := 719, descriptorIndex := 716, attributes := #[] }, { accessFlags := 4120, nameIndex := 445, descriptorIndex := 117, attributes := #[] }])
  fields := #[{ name := "MIN_ARRAY_SORT_GRAN", type := .int, accessFlags := 26, slot := 0, constantValue := 0 }, { name := "INSERTIONSORT_THRESHOLD", type := .int, accessFlags := 26, slot := 1, constantValue := 0 }, { name := "$assertionsDisabled", type := .boolean, accessFlags := 4120, slot := 2, constantValue := 0 }]
  methods := #[k41m0, k41m1]
  instanceTypes := #[]
  staticTypes := #[.int, .int, .boolean]
  resolved := Array.replicate 1029 none
  statics := none }

/-- the primitive byte -/
def k42 : Class := { plain "byte" none with kind := .primitive 'B', accessFlags := 0x411 }
/-- [B -/
def k43 : Class := { plain "[B" (some 0) with kind := .array 42 .byte, interfaces := #[13, 4], accessFlags := 1041 }

/-- the primitive int -/
def k44 : Class := { plain "int" none with kind := .primitive 'I', accessFlags := 0x411 }
/-- [I -/
def k45 : Class := { plain "[I" (some 0) with kind := .array 44 .int, interfaces := #[13, 4], accessFlags := 1041 }

/-- the primitive long -/
def k46 : Class := { plain "long" none with kind := .primitive 'J', accessFlags := 0x411 }
/-- [J -/
def k47 : Class := { plain "[J" (some 0) with kind := .array 46 .long, interfaces := #[13, 4], accessFlags := 1041 }

/-- [Ljava/lang/Long; -/
def k48 : Class := { plain "[Ljava/lang/Long;" (some 0) with kind := .array 17 (.object "java/lang/Long"), interfaces := #[13, 4], accessFlags := 1041 }

def heap : Heap := #[{ cls := 6, slots := #[.ref 260, .ref 261, .null], vm := .statics 6 },
  { cls := 7, slots := #[.ref 262], vm := .statics 7 },
  { cls := 18, slots := #[.ref 3, .null, .int 0], vm := .statics 18 },
  { cls := 48, slots := #[.ref 4, .ref 5, .ref 6, .ref 7, .ref 8, .ref 9, .ref 10, .ref 11, .ref 12, .ref 13, .ref 14, .ref 15, .ref 16, .ref 17, .ref 18, .ref 19, .ref 20, .ref 21, .ref 22, .ref 23, .ref 24, .ref 25, .ref 26, .ref 27, .ref 28, .ref 29, .ref 30, .ref 31, .ref 32, .ref 33, .ref 34, .ref 35, .ref 36, .ref 37, .ref 38, .ref 39, .ref 40, .ref 41, .ref 42, .ref 43, .ref 44, .ref 45, .ref 46, .ref 47, .ref 48, .ref 49, .ref 50, .ref 51, .ref 52, .ref 53, .ref 54, .ref 55, .ref 56, .ref 57, .ref 58, .ref 59, .ref 60, .ref 61, .ref 62, .ref 63, .ref 64, .ref 65, .ref 66, .ref 67, .ref 68, .ref 69, .ref 70, .ref 71, .ref 72, .ref 73, .ref 74, .ref 75, .ref 76, .ref 77, .ref 78, .ref 79, .ref 80, .ref 81, .ref 82, .ref 83, .ref 84, .ref 85, .ref 86, .ref 87, .ref 88, .ref 89, .ref 90, .ref 91, .ref 92, .ref 93, .ref 94, .ref 95, .ref 96, .ref 97, .ref 98, .ref 99, .ref 100, .ref 101, .ref 102, .ref 103, .ref 104, .ref 105, .ref 106, .ref 107, .ref 108, .ref 109, .ref 110, .ref 111, .ref 112, .ref 113, .ref 114, .ref 115, .ref 116, .ref 117, .ref 118, .ref 119, .ref 120, .ref 121, .ref 122, .ref 123, .ref 124, .ref 125, .ref 126, .ref 127, .ref 128, .ref 129, .ref 130, .ref 131, .ref 132, .ref 133, .ref 134, .ref 135, .ref 136, .ref 137, .ref 138, .ref 139, .ref 140, .ref 141, .ref 142, .ref 143, .ref 144, .ref 145, .ref 146, .ref 147, .ref 148, .ref 149, .ref 150, .ref 151, .ref 152, .ref 153, .ref 154, .ref 155, .ref 156, .ref 157, .ref 158, .ref 159, .ref 160, .ref 161, .ref 162, .ref 163, .ref 164, .ref 165, .ref 166, .ref 167, .ref 168, .ref 169, .ref 170, .ref 171, .ref 172, .ref 173, .ref 174, .ref 175, .ref 176, .ref 177, .ref 178, .ref 179, .ref 180, .ref 181, .ref 182, .ref 183, .ref 184, .ref 185, .ref 186, .ref 187, .ref 188, .ref 189, .ref 190, .ref 191, .ref 192, .ref 193, .ref 194, .ref 195, .ref 196, .ref 197, .ref 198, .ref 199, .ref 200, .ref 201, .ref 202, .ref 203, .ref 204, .ref 205, .ref 206, .ref 207, .ref 208, .ref 209, .ref 210, .ref 211, .ref 212, .ref 213, .ref 214, .ref 215, .ref 216, .ref 217, .ref 218, .ref 219, .ref 220, .ref 221, .ref 222, .ref 223, .ref 224, .ref 225, .ref 226, .ref 227, .ref 228, .ref 229, .ref 230, .ref 231, .ref 232, .ref 233, .ref 234, .ref 235, .ref 236, .ref 237, .ref 238, .ref 239, .ref 240, .ref 241, .ref 242, .ref 243, .ref 244, .ref 245, .ref 246, .ref 247, .ref 248, .ref 249, .ref 250, .ref 251, .ref 252, .ref 253, .ref 254, .ref 255, .ref 256, .ref 257, .ref 258, .ref 259], vm := .none },
  { cls := 17, slots := #[.long (-128)], vm := .none },
  { cls := 17, slots := #[.long (-127)], vm := .none },
  { cls := 17, slots := #[.long (-126)], vm := .none },
  { cls := 17, slots := #[.long (-125)], vm := .none },
  { cls := 17, slots := #[.long (-124)], vm := .none },
  { cls := 17, slots := #[.long (-123)], vm := .none },
  { cls := 17, slots := #[.long (-122)], vm := .none },
  { cls := 17, slots := #[.long (-121)], vm := .none },
  { cls := 17, slots := #[.long (-120)], vm := .none },
  { cls := 17, slots := #[.long (-119)], vm := .none },
  { cls := 17, slots := #[.long (-118)], vm := .none },
  { cls := 17, slots := #[.long (-117)], vm := .none },
  { cls := 17, slots := #[.long (-116)], vm := .none },
  { cls := 17, slots := #[.long (-115)], vm := .none },
  { cls := 17, slots := #[.long (-114)], vm := .none },
  { cls := 17, slots := #[.long (-113)], vm := .none },
  { cls := 17, slots := #[.long (-112)], vm := .none },
  { cls := 17, slots := #[.long (-111)], vm := .none },
  { cls := 17, slots := #[.long (-110)], vm := .none },
  { cls := 17, slots := #[.long (-109)], vm := .none },
  { cls := 17, slots := #[.long (-108)], vm := .none },
  { cls := 17, slots := #[.long (-107)], vm := .none },
  { cls := 17, slots := #[.long (-106)], vm := .none },
  { cls := 17, slots := #[.long (-105)], vm := .none },
  { cls := 17, slots := #[.long (-104)], vm := .none },
  { cls := 17, slots := #[.long (-103)], vm := .none },
  { cls := 17, slots := #[.long (-102)], vm := .none },
  { cls := 17, slots := #[.long (-101)], vm := .none },
  { cls := 17, slots := #[.long (-100)], vm := .none },
  { cls := 17, slots := #[.long (-99)], vm := .none },
  { cls := 17, slots := #[.long (-98)], vm := .none },
  { cls := 17, slots := #[.long (-97)], vm := .none },
  { cls := 17, slots := #[.long (-96)], vm := .none },
  { cls := 17, slots := #[.long (-95)], vm := .none },
  { cls := 17, slots := #[.long (-94)], vm := .none },
  { cls := 17, slots := #[.long (-93)], vm := .none },
  { cls := 17, slots := #[.long (-92)], vm := .none },
  { cls := 17, slots := #[.long (-91)], vm := .none },
  { cls := 17, slots := #[.long (-90)], vm := .none },
  { cls := 17, slots := #[.long (-89)], vm := .none },
  { cls := 17, slots := #[.long (-88)], vm := .none },
  { cls := 17, slots := #[.long (-87)], vm := .none },
  { cls := 17, slots := #[.long (-86)], vm := .none },
  { cls := 17, slots := #[.long (-85)], vm := .none },
  { cls := 17, slots := #[.long (-84)], vm := .none },
  { cls := 17, slots := #[.long (-83)], vm := .none },
  { cls := 17, slots := #[.long (-82)], vm := .none },
  { cls := 17, slots := #[.long (-81)], vm := .none },
  { cls := 17, slots := #[.long (-80)], vm := .none },
  { cls := 17, slots := #[.long (-79)], vm := .none },
  { cls := 17, slots := #[.long (-78)], vm := .none },
  { cls := 17, slots := #[.long (-77)], vm := .none },
  { cls := 17, slots := #[.long (-76)], vm := .none },
  { cls := 17, slots := #[.long (-75)], vm := .none },
  { cls := 17, slots := #[.long (-74)], vm := .none },
  { cls := 17, slots := #[.long (-73)], vm := .none },
  { cls := 17, slots := #[.long (-72)], vm := .none },
  { cls := 17, slots := #[.long (-71)], vm := .none },
  { cls := 17, slots := #[.long (-70)], vm := .none },
  { cls := 17, slots := #[.long (-69)], vm := .none },
  { cls := 17, slots := #[.long (-68)], vm := .none },
  { cls := 17, slots := #[.long (-67)], vm := .none },
  { cls := 17, slots := #[.long (-66)], vm := .none },
  { cls := 17, slots := #[.long (-65)], vm := .none },
  { cls := 17, slots := #[.long (-64)], vm := .none },
  { cls := 17, slots := #[.long (-63)], vm := .none },
  { cls := 17, slots := #[.long (-62)], vm := .none },
  { cls := 17, slots := #[.long (-61)], vm := .none },
  { cls := 17, slots := #[.long (-60)], vm := .none },
  { cls := 17, slots := #[.long (-59)], vm := .none },
  { cls := 17, slots := #[.long (-58)], vm := .none },
  { cls := 17, slots := #[.long (-57)], vm := .none },
  { cls := 17, slots := #[.long (-56)], vm := .none },
  { cls := 17, slots := #[.long (-55)], vm := .none },
  { cls := 17, slots := #[.long (-54)], vm := .none },
  { cls := 17, slots := #[.long (-53)], vm := .none },
  { cls := 17, slots := #[.long (-52)], vm := .none },
  { cls := 17, slots := #[.long (-51)], vm := .none },
  { cls := 17, slots := #[.long (-50)], vm := .none },
  { cls := 17, slots := #[.long (-49)], vm := .none },
  { cls := 17, slots := #[.long (-48)], vm := .none },
  { cls := 17, slots := #[.long (-47)], vm := .none },
  { cls := 17, slots := #[.long (-46)], vm := .none },
  { cls := 17, slots := #[.long (-45)], vm := .none },
  { cls := 17, slots := #[.long (-44)], vm := .none },
  { cls := 17, slots := #[.long (-43)], vm := .none },
  { cls := 17, slots := #[.long (-42)], vm := .none },
  { cls := 17, slots := #[.long (-41)], vm := .none },
  { cls := 17, slots := #[.long (-40)], vm := .none },
  { cls := 17, slots := #[.long (-39)], vm := .none },
  { cls := 17, slots := #[.long (-38)], vm := .none },
  { cls := 17, slots := #[.long (-37)], vm := .none },
  { cls := 17, slots := #[.long (-36)], vm := .none },
  { cls := 17, slots := #[.long (-35)], vm := .none },
  { cls := 17, slots := #[.long (-34)], vm := .none },
  { cls := 17, slots := #[.long (-33)], vm := .none },
  { cls := 17, slots := #[.long (-32)], vm := .none },
  { cls := 17, slots := #[.long (-31)], vm := .none },
  { cls := 17, slots := #[.long (-30)], vm := .none },
  { cls := 17, slots := #[.long (-29)], vm := .none },
  { cls := 17, slots := #[.long (-28)], vm := .none },
  { cls := 17, slots := #[.long (-27)], vm := .none },
  { cls := 17, slots := #[.long (-26)], vm := .none },
  { cls := 17, slots := #[.long (-25)], vm := .none },
  { cls := 17, slots := #[.long (-24)], vm := .none },
  { cls := 17, slots := #[.long (-23)], vm := .none },
  { cls := 17, slots := #[.long (-22)], vm := .none },
  { cls := 17, slots := #[.long (-21)], vm := .none },
  { cls := 17, slots := #[.long (-20)], vm := .none },
  { cls := 17, slots := #[.long (-19)], vm := .none },
  { cls := 17, slots := #[.long (-18)], vm := .none },
  { cls := 17, slots := #[.long (-17)], vm := .none },
  { cls := 17, slots := #[.long (-16)], vm := .none },
  { cls := 17, slots := #[.long (-15)], vm := .none },
  { cls := 17, slots := #[.long (-14)], vm := .none },
  { cls := 17, slots := #[.long (-13)], vm := .none },
  { cls := 17, slots := #[.long (-12)], vm := .none },
  { cls := 17, slots := #[.long (-11)], vm := .none },
  { cls := 17, slots := #[.long (-10)], vm := .none },
  { cls := 17, slots := #[.long (-9)], vm := .none },
  { cls := 17, slots := #[.long (-8)], vm := .none },
  { cls := 17, slots := #[.long (-7)], vm := .none },
  { cls := 17, slots := #[.long (-6)], vm := .none },
  { cls := 17, slots := #[.long (-5)], vm := .none },
  { cls := 17, slots := #[.long (-4)], vm := .none },
  { cls := 17, slots := #[.long (-3)], vm := .none },
  { cls := 17, slots := #[.long (-2)], vm := .none },
  { cls := 17, slots := #[.long (-1)], vm := .none },
  { cls := 17, slots := #[.long 0], vm := .none },
  { cls := 17, slots := #[.long 1], vm := .none },
  { cls := 17, slots := #[.long 2], vm := .none },
  { cls := 17, slots := #[.long 3], vm := .none },
  { cls := 17, slots := #[.long 4], vm := .none },
  { cls := 17, slots := #[.long 5], vm := .none },
  { cls := 17, slots := #[.long 6], vm := .none },
  { cls := 17, slots := #[.long 7], vm := .none },
  { cls := 17, slots := #[.long 8], vm := .none },
  { cls := 17, slots := #[.long 9], vm := .none },
  { cls := 17, slots := #[.long 10], vm := .none },
  { cls := 17, slots := #[.long 11], vm := .none },
  { cls := 17, slots := #[.long 12], vm := .none },
  { cls := 17, slots := #[.long 13], vm := .none },
  { cls := 17, slots := #[.long 14], vm := .none },
  { cls := 17, slots := #[.long 15], vm := .none },
  { cls := 17, slots := #[.long 16], vm := .none },
  { cls := 17, slots := #[.long 17], vm := .none },
  { cls := 17, slots := #[.long 18], vm := .none },
  { cls := 17, slots := #[.long 19], vm := .none },
  { cls := 17, slots := #[.long 20], vm := .none },
  { cls := 17, slots := #[.long 21], vm := .none },
  { cls := 17, slots := #[.long 22], vm := .none },
  { cls := 17, slots := #[.long 23], vm := .none },
  { cls := 17, slots := #[.long 24], vm := .none },
  { cls := 17, slots := #[.long 25], vm := .none },
  { cls := 17, slots := #[.long 26], vm := .none },
  { cls := 17, slots := #[.long 27], vm := .none },
  { cls := 17, slots := #[.long 28], vm := .none },
  { cls := 17, slots := #[.long 29], vm := .none },
  { cls := 17, slots := #[.long 30], vm := .none },
  { cls := 17, slots := #[.long 31], vm := .none },
  { cls := 17, slots := #[.long 32], vm := .none },
  { cls := 17, slots := #[.long 33], vm := .none },
  { cls := 17, slots := #[.long 34], vm := .none },
  { cls := 17, slots := #[.long 35], vm := .none },
  { cls := 17, slots := #[.long 36], vm := .none },
  { cls := 17, slots := #[.long 37], vm := .none },
  { cls := 17, slots := #[.long 38], vm := .none },
  { cls := 17, slots := #[.long 39], vm := .none },
  { cls := 17, slots := #[.long 40], vm := .none },
  { cls := 17, slots := #[.long 41], vm := .none },
  { cls := 17, slots := #[.long 42], vm := .none },
  { cls := 17, slots := #[.long 43], vm := .none },
  { cls := 17, slots := #[.long 44], vm := .none },
  { cls := 17, slots := #[.long 45], vm := .none },
  { cls := 17, slots := #[.long 46], vm := .none },
  { cls := 17, slots := #[.long 47], vm := .none },
  { cls := 17, slots := #[.long 48], vm := .none },
  { cls := 17, slots := #[.long 49], vm := .none },
  { cls := 17, slots := #[.long 50], vm := .none },
  { cls := 17, slots := #[.long 51], vm := .none },
  { cls := 17, slots := #[.long 52], vm := .none },
  { cls := 17, slots := #[.long 53], vm := .none },
  { cls := 17, slots := #[.long 54], vm := .none },
  { cls := 17, slots := #[.long 55], vm := .none },
  { cls := 17, slots := #[.long 56], vm := .none },
  { cls := 17, slots := #[.long 57], vm := .none },
  { cls := 17, slots := #[.long 58], vm := .none },
  { cls := 17, slots := #[.long 59], vm := .none },
  { cls := 17, slots := #[.long 60], vm := .none },
  { cls := 17, slots := #[.long 61], vm := .none },
  { cls := 17, slots := #[.long 62], vm := .none },
  { cls := 17, slots := #[.long 63], vm := .none },
  { cls := 17, slots := #[.long 64], vm := .none },
  { cls := 17, slots := #[.long 65], vm := .none },
  { cls := 17, slots := #[.long 66], vm := .none },
  { cls := 17, slots := #[.long 67], vm := .none },
  { cls := 17, slots := #[.long 68], vm := .none },
  { cls := 17, slots := #[.long 69], vm := .none },
  { cls := 17, slots := #[.long 70], vm := .none },
  { cls := 17, slots := #[.long 71], vm := .none },
  { cls := 17, slots := #[.long 72], vm := .none },
  { cls := 17, slots := #[.long 73], vm := .none },
  { cls := 17, slots := #[.long 74], vm := .none },
  { cls := 17, slots := #[.long 75], vm := .none },
  { cls := 17, slots := #[.long 76], vm := .none },
  { cls := 17, slots := #[.long 77], vm := .none },
  { cls := 17, slots := #[.long 78], vm := .none },
  { cls := 17, slots := #[.long 79], vm := .none },
  { cls := 17, slots := #[.long 80], vm := .none },
  { cls := 17, slots := #[.long 81], vm := .none },
  { cls := 17, slots := #[.long 82], vm := .none },
  { cls := 17, slots := #[.long 83], vm := .none },
  { cls := 17, slots := #[.long 84], vm := .none },
  { cls := 17, slots := #[.long 85], vm := .none },
  { cls := 17, slots := #[.long 86], vm := .none },
  { cls := 17, slots := #[.long 87], vm := .none },
  { cls := 17, slots := #[.long 88], vm := .none },
  { cls := 17, slots := #[.long 89], vm := .none },
  { cls := 17, slots := #[.long 90], vm := .none },
  { cls := 17, slots := #[.long 91], vm := .none },
  { cls := 17, slots := #[.long 92], vm := .none },
  { cls := 17, slots := #[.long 93], vm := .none },
  { cls := 17, slots := #[.long 94], vm := .none },
  { cls := 17, slots := #[.long 95], vm := .none },
  { cls := 17, slots := #[.long 96], vm := .none },
  { cls := 17, slots := #[.long 97], vm := .none },
  { cls := 17, slots := #[.long 98], vm := .none },
  { cls := 17, slots := #[.long 99], vm := .none },
  { cls := 17, slots := #[.long 100], vm := .none },
  { cls := 17, slots := #[.long 101], vm := .none },
  { cls := 17, slots := #[.long 102], vm := .none },
  { cls := 17, slots := #[.long 103], vm := .none },
  { cls := 17, slots := #[.long 104], vm := .none },
  { cls := 17, slots := #[.long 105], vm := .none },
  { cls := 17, slots := #[.long 106], vm := .none },
  { cls := 17, slots := #[.long 107], vm := .none },
  { cls := 17, slots := #[.long 108], vm := .none },
  { cls := 17, slots := #[.long 109], vm := .none },
  { cls := 17, slots := #[.long 110], vm := .none },
  { cls := 17, slots := #[.long 111], vm := .none },
  { cls := 17, slots := #[.long 112], vm := .none },
  { cls := 17, slots := #[.long 113], vm := .none },
  { cls := 17, slots := #[.long 114], vm := .none },
  { cls := 17, slots := #[.long 115], vm := .none },
  { cls := 17, slots := #[.long 116], vm := .none },
  { cls := 17, slots := #[.long 117], vm := .none },
  { cls := 17, slots := #[.long 118], vm := .none },
  { cls := 17, slots := #[.long 119], vm := .none },
  { cls := 17, slots := #[.long 120], vm := .none },
  { cls := 17, slots := #[.long 121], vm := .none },
  { cls := 17, slots := #[.long 122], vm := .none },
  { cls := 17, slots := #[.long 123], vm := .none },
  { cls := 17, slots := #[.long 124], vm := .none },
  { cls := 17, slots := #[.long 125], vm := .none },
  { cls := 17, slots := #[.long 126], vm := .none },
  { cls := 17, slots := #[.long 127], vm := .none },
  { cls := 6, slots := #[.null, .int 0, .int 0], vm := .none },
  { cls := 6, slots := #[.null, .int 1, .int 0], vm := .none },
  { cls := 20, slots := #[], vm := .none }]
def classes : Array Class := #[k0, k1, k2, k3, k4, k5, k6, k7, k8, k9, k10, k11, k12, k13, k14, k15, k16, k17, k18, k19, k20, k21, k22, k23, k24, k25, k26, k27, k28, k29, k30, k31, k32, k33, k34, k35, k36, k37, k38, k39, k40, k41, k42, k43, k44, k45, k46, k47, k48]
def interned : List (Array UInt16 × Addr) := []
def slotsUsed : Nat := 525
def theMethod : MethodId := ⟨1, 1⟩
def args0 : Array Value := #[.int 1, .int 2, .int 3, .int 4, .int 5]
def aboutOver (below : List Frame) : State where
  vm := { classes := classes, interned := interned.toArray }
  heap := heap
  slotsUsed := slotsUsed
  threads := #[{ frames := .invoking theMethod args0 :: below }]
def below0 : List Frame := [.native { method := ⟨0, 0⟩, args := #[] }]
def about1 : State := aboutOver below0
def p0 : Program := .bare "" "" ""
def e0 : Env := launch0.env 0 0 0
theorem w_frames : about1.frames = Frame.invoking theMethod args0 :: below0 := rfl
set_option maxRecDepth 65536 in
theorem w_args : argsFit about1.vm theMethod args0 = true := by decide +kernel
set_option maxRecDepth 65536 in
theorem w_heap : heapFits about1 = true := by decide +kernel
set_option maxRecDepth 65536 in
theorem w_runnable : about1.curStatus? = some .runnable := by decide +kernel
set_option maxRecDepth 65536 in
theorem w_alone : about1.alone = true := by decide +kernel
set_option maxRecDepth 65536 in
theorem w_named : about1.methodNamed? x = some theMethod := by decide +kernel
set_option maxRecDepth 65536 in
theorem w_hears : about1.hears theMethod below0 = true := by decide +kernel
set_option maxRecDepth 65536 in
theorem w_ripe : about1.ripe theMethod args0 below0 = true := by decide +kernel
theorem w_running : about1.status = .running := rfl
set_option maxRecDepth 65536 in
theorem w_room : about1.hasRoom e0.platform room_1 = true :=
  launch0.hasRoom_least _ room_1 (by decide +kernel) (by decide +kernel) (by decide +kernel) (by decide +kernel) (by decide +kernel) (by decide +kernel)
theorem allAtoms_all (ts : List Jvm.Cond) (a : Array Jvm.Value) (st : Jvm.State) : (allAtoms ts).before a st = ts.all (fun c => c.before a st) := by
  induction ts with
  | nil => rfl
  | cons c t ih =>
    show (Jvm.Cond.and c (allAtoms t)).before a st = _
    rw [Jvm.Cond.before_and, ih, List.all_cons]
def words1 : List Jvm.Cond := Jvm.Cond.code x code maxLocals ret :: tables_1
/-- a 'code' word, met by the world's own term for the bytes: nothing is compared byte by byte -/
theorem code_word {y : MethodName} {bytes : ByteArray} {mx : Nat} {rt : Option FieldType} {a : Array Value} {s : State} {m : MethodId} {meth : Method} {c : Code} (h1 : s.methodNamed? y = some m) (h2 : s.vm.method? m = some meth) (h3 : meth.code = some c) (h4 : c.code = bytes)
    (h5 : (c.maxLocals == mx && c.exceptionTable.isEmpty && decide (c.maxStack ≤ mostOperands) && decide (meth.sig.returnType = rt) && !meth.locks && decide (parseMethodDescriptor y.desc = some meth.sig)) = true) : (Jvm.Cond.code y bytes mx rt).before a s = true := by
  simp only [Bool.and_eq_true, beq_iff_eq, Bool.not_eq_true', decide_eq_true_eq] at h5
  obtain ⟨⟨⟨⟨⟨g1, g2⟩, g3⟩, g4⟩, g5⟩, g6⟩ := h5
  simp [Cond.before, Cond.holds, Cond.value, h1, h2, h3, h4, g1, g2, g3, g4, g5, g6]
def isCode : Jvm.Cond → Bool
  | .code _ _ _ _ => true
  | _ => false
theorem all_split {L : List Jvm.Cond} {P : Jvm.Cond → Bool} (h1 : L.all (fun c => isCode c || P c) = true) (h2 : ∀ c ∈ L.filter isCode, P c = true) : L.all P = true := by
  refine List.all_eq_true.mpr fun c hc => ?_
  have h := List.all_eq_true.mp h1 c hc
  rcases Bool.eq_false_or_eq_true (isCode c) with hi | hi
  · exact h2 c (List.mem_filter.mpr ⟨hc, hi⟩)
  · simpa [hi] using h
set_option maxRecDepth 65536 in
theorem w_c0 : (Jvm.Cond.code x code maxLocals ret).before args0 about1 = true := code_word (m := ⟨1, 1⟩) (meth := k1m1) (c := k1c1) (by decide +kernel) rfl rfl rfl (by decide +kernel)
set_option maxRecDepth 65536 in
theorem w_c1 : (Jvm.Cond.code ({ cls := "com/example/millwright/millwright/cut/Order$Builder", name := "<init>", desc := "()V" } : Jvm.MethodName) prog_20_method_1_code (1 : Nat) (Option.none : Option Jvm.ClassFile.FieldType)).before args0 about1 = true := code_word (m := ⟨7, 0⟩) (meth := k7m0) (c := k7c0) (by decide +kernel) rfl rfl rfl (by decide +kernel)
set_option maxRecDepth 65536 in
theorem w_c2 : (Jvm.Cond.code ({ cls := "java/lang/Object", name := "<init>", desc := "()V" } : Jvm.MethodName) object_method_1_code (1 : Nat) (Option.none : Option Jvm.ClassFile.FieldType)).before args0 about1 = true := code_word (m := ⟨0, 0⟩) (meth := k0m0) (c := k0c0) (by decide +kernel) rfl rfl rfl (by decide +kernel)
set_option maxRecDepth 65536 in
theorem w_c3 : (Jvm.Cond.code ({ cls := "java/util/TreeMap", name := "<init>", desc := "(Ljava/util/Comparator;)V" } : Jvm.MethodName) jdk_2729_method_2_code (2 : Nat) (Option.none : Option Jvm.ClassFile.FieldType)).before args0 about1 = true := code_word (m := ⟨14, 1⟩) (meth := k14m1) (c := k14c1) (by decide +kernel) rfl rfl rfl (by decide +kernel)
set_option maxRecDepth 65536 in
theorem w_c4 : (Jvm.Cond.code ({ cls := "java/util/AbstractMap", name := "<init>", desc := "()V" } : Jvm.MethodName) jdk_71_method_1_code (1 : Nat) (Option.none : Option Jvm.ClassFile.FieldType)).before args0 about1 = true := code_word (m := ⟨9, 0⟩) (meth := k9m0) (c := k9c0) (by decide +kernel) rfl rfl rfl (by decide +kernel)
set_option maxRecDepth 65536 in
theorem w_c5 : (Jvm.Cond.code ({ cls := "com/example/millwright/millwright/cut/Order$Builder", name := "stock", desc := "(J)Lcom/example/millwright/millwright/cut/Order$Builder;" } : Jvm.MethodName) prog_20_method_2_code (3 : Nat) (Option.some (Jvm.ClassFile.FieldType.object "com/example/millwright/millwright/cut/Order$Builder"))).before args0 about1 = true := code_word (m := ⟨7, 1⟩) (meth := k7m1) (c := k7c1) (by decide +kernel) rfl rfl rfl (by decide +kernel)
set_option maxRecDepth 65536 in
theorem w_c6 : (Jvm.Cond.code ({ cls := "com/example/millwright/millwright/cut/Order$Builder", name := "stock", desc := "(JJ)Lcom/example/millwright/millwright/cut/Order$Builder;" } : Jvm.MethodName) prog_20_method_3_code (8 : Nat) (Option.some (Jvm.ClassFile.FieldType.object "com/example/millwright/millwright/cut/Order$Builder"))).before args0 about1 = true := code_word (m := ⟨7, 2⟩) (meth := k7m2) (c := k7c2) (by decide +kernel) rfl rfl rfl (by decide +kernel)
set_option maxRecDepth 65536 in
theorem w_c7 : (Jvm.Cond.code ({ cls := "java/lang/Long", name := "valueOf", desc := "(J)Ljava/lang/Long;" } : Jvm.MethodName) jdk_35_method_24_code (3 : Nat) (Option.some (Jvm.ClassFile.FieldType.object "java/lang/Long"))).before args0 about1 = true := code_word (m := ⟨17, 0⟩) (meth := k17m0) (c := k17c0) (by decide +kernel) rfl rfl rfl (by decide +kernel)
set_option maxRecDepth 65536 in
theorem w_c8 : (Jvm.Cond.code ({ cls := "java/util/Map", name := "getOrDefault", desc := "(Ljava/lang/Object;Ljava/lang/Object;)Ljava/lang/Object;" } : Jvm.MethodName) jdk_72_method_15_code (4 : Nat) (Option.some (Jvm.ClassFile.FieldType.object "java/lang/Object"))).before args0 about1 = true := code_word (m := ⟨8, 7⟩) (meth := k8m7) (c := k8c7) (by decide +kernel) rfl rfl rfl (by decide +kernel)
set_option maxRecDepth 65536 in
theorem w_c9 : (Jvm.Cond.code ({ cls := "java/util/TreeMap", name := "get", desc := "(Ljava/lang/Object;)Ljava/lang/Object;" } : Jvm.MethodName) jdk_2729_method_8_code (3 : Nat) (Option.some (Jvm.ClassFile.FieldType.object "java/lang/Object"))).before args0 about1 = true := code_word (m := ⟨14, 4⟩) (meth := k14m4) (c := k14c4) (by decide +kernel) rfl rfl rfl (by decide +kernel)
set_option maxRecDepth 65536 in
theorem w_c10 : (Jvm.Cond.code ({ cls := "java/util/TreeMap", name := "getEntry", desc := "(Ljava/lang/Object;)Ljava/util/TreeMap$Entry;" } : Jvm.MethodName) jdk_2729_method_15_code (5 : Nat) (Option.some (Jvm.ClassFile.FieldType.object "java/util/TreeMap$Entry"))).before args0 about1 = true := code_word (m := ⟨14, 5⟩) (meth := k14m5) (c := k14c5) (by decide +kernel) rfl rfl rfl (by decide +kernel)
set_option maxRecDepth 65536 in
theorem w_c11 : (Jvm.Cond.code ({ cls := "java/util/TreeMap", name := "getEntryUsingComparator", desc := "(Ljava/lang/Object;)Ljava/util/TreeMap$Entry;" } : Jvm.MethodName) jdk_2729_method_16_code (6 : Nat) (Option.some (Jvm.ClassFile.FieldType.object "java/util/TreeMap$Entry"))).before args0 about1 = true := code_word (m := ⟨14, 6⟩) (meth := k14m6) (c := k14c6) (by decide +kernel) rfl rfl rfl (by decide +kernel)
set_option maxRecDepth 65536 in
theorem w_c12 : (Jvm.Cond.code ({ cls := "java/util/TreeMap", name := "containsKey", desc := "(Ljava/lang/Object;)Z" } : Jvm.MethodName) jdk_2729_method_6_code (2 : Nat) (Option.some Jvm.ClassFile.FieldType.boolean)).before args0 about1 = true := code_word (m := ⟨14, 3⟩) (meth := k14m3) (c := k14c3) (by decide +kernel) rfl rfl rfl (by decide +kernel)
set_option maxRecDepth 65536 in
theorem w_c13 : (Jvm.Cond.code ({ cls := "java/lang/Long", name := "longValue", desc := "()J" } : Jvm.MethodName) jdk_35_method_31_code (1 : Nat) (Option.some Jvm.ClassFile.FieldType.long)).before args0 about1 = true := code_word (m := ⟨17, 2⟩) (meth := k17m2) (c := k17c2) (by decide +kernel) rfl rfl rfl (by decide +kernel)
set_option maxRecDepth 65536 in
theorem w_c14 : (Jvm.Cond.code ({ cls := "java/lang/Long", name := "<init>", desc := "(J)V" } : Jvm.MethodName) jdk_35_method_26_code (3 : Nat) (Option.none : Option Jvm.ClassFile.FieldType)).before args0 about1 = true := code_word (m := ⟨17, 1⟩) (meth := k17m1) (c := k17c1) (by decide +kernel) rfl rfl rfl (by decide +kernel)
set_option maxRecDepth 65536 in
theorem w_c15 : (Jvm.Cond.code ({ cls := "java/lang/Number", name := "<init>", desc := "()V" } : Jvm.MethodName) jdk_18_method_1_code (1 : Nat) (Option.none : Option Jvm.ClassFile.FieldType)).before args0 about1 = true := code_word (m := ⟨15, 0⟩) (meth := k15m0) (c := k15c0) (by decide +kernel) rfl rfl rfl (by decide +kernel)
set_option maxRecDepth 65536 in
theorem w_c16 : (Jvm.Cond.code ({ cls := "java/util/TreeMap", name := "put", desc := "(Ljava/lang/Object;Ljava/lang/Object;)Ljava/lang/Object;" } : Jvm.MethodName) jdk_2729_method_21_code (3 : Nat) (Option.some (Jvm.ClassFile.FieldType.object "java/lang/Object"))).before args0 about1 = true := code_word (m := ⟨14, 7⟩) (meth := k14m7) (c := k14c7) (by decide +kernel) rfl rfl rfl (by decide +kernel)
set_option maxRecDepth 65536 in
theorem w_c17 : (Jvm.Cond.code ({ cls := "java/util/TreeMap", name := "put", desc := "(Ljava/lang/Object;Ljava/lang/Object;Z)Ljava/lang/Object;" } : Jvm.MethodName) jdk_2729_method_31_code (10 : Nat) (Option.some (Jvm.ClassFile.FieldType.object "java/lang/Object"))).before args0 about1 = true := code_word (m := ⟨14, 9⟩) (meth := k14m9) (c := k14c9) (by decide +kernel) rfl rfl rfl (by decide +kernel)
set_option maxRecDepth 65536 in
theorem w_c18 : (Jvm.Cond.code ({ cls := "java/util/TreeMap", name := "addEntryToEmptyMap", desc := "(Ljava/lang/Object;Ljava/lang/Object;)V" } : Jvm.MethodName) jdk_2729_method_30_code (3 : Nat) (Option.none : Option Jvm.ClassFile.FieldType)).before args0 about1 = true := code_word (m := ⟨14, 8⟩) (meth := k14m8) (c := k14c8) (by decide +kernel) rfl rfl rfl (by decide +kernel)
set_option maxRecDepth 65536 in
theorem w_c19 : (Jvm.Cond.code ({ cls := "java/util/TreeMap", name := "compare", desc := "(Ljava/lang/Object;Ljava/lang/Object;)I" } : Jvm.MethodName) jdk_2729_method_67_code (3 : Nat) (Option.some Jvm.ClassFile.FieldType.int)).before args0 about1 = true := code_word (m := ⟨14, 14⟩) (meth := k14m14) (c := k14c14) (by decide +kernel) rfl rfl rfl (by decide +kernel)
set_option maxRecDepth 65536 in
theorem w_c20 : (Jvm.Cond.code ({ cls := "java/util/Collections$ReverseComparator", name := "compare", desc := "(Ljava/lang/Object;Ljava/lang/Object;)I" } : Jvm.MethodName) jdk_2483_method_5_code (3 : Nat) (Option.some Jvm.ClassFile.FieldType.int)).before args0 about1 = true := code_word (m := ⟨20, 2⟩) (meth := k20m2) (c := k20c2) (by decide +kernel) rfl rfl rfl (by decide +kernel)
set_option maxRecDepth 65536 in
theorem w_c21 : (Jvm.Cond.code ({ cls := "java/util/Collections$ReverseComparator", name := "compare", desc := "(Ljava/lang/Comparable;Ljava/lang/Comparable;)I" } : Jvm.MethodName) jdk_2483_method_2_code (3 : Nat) (Option.some Jvm.ClassFile.FieldType.int)).before args0 about1 = true := code_word (m := ⟨20, 1⟩) (meth := k20m1) (c := k20c1) (by decide +kernel) rfl rfl rfl (by decide +kernel)
set_option maxRecDepth 65536 in
theorem w_c22 : (Jvm.Cond.code ({ cls := "java/lang/Long", name := "compareTo", desc := "(Ljava/lang/Object;)I" } : Jvm.MethodName) jdk_35_method_64_code (2 : Nat) (Option.some Jvm.ClassFile.FieldType.int)).before args0 about1 = true := code_word (m := ⟨17, 5⟩) (meth := k17m5) (c := k17c5) (by decide +kernel) rfl rfl rfl (by decide +kernel)
set_option maxRecDepth 65536 in
theorem w_c23 : (Jvm.Cond.code ({ cls := "java/lang/Long", name := "compareTo", desc := "(Ljava/lang/Long;)I" } : Jvm.MethodName) jdk_35_method_41_code (2 : Nat) (Option.some Jvm.ClassFile.FieldType.int)).before args0 about1 = true := code_word (m := ⟨17, 3⟩) (meth := k17m3) (c := k17c3) (by decide +kernel) rfl rfl rfl (by decide +kernel)
set_option maxRecDepth 65536 in
theorem w_c24 : (Jvm.Cond.code ({ cls := "java/lang/Long", name := "compare", desc := "(JJ)I" } : Jvm.MethodName) jdk_35_method_42_code (4 : Nat) (Option.some Jvm.ClassFile.FieldType.int)).before args0 about1 = true := code_word (m := ⟨17, 4⟩) (meth := k17m4) (c := k17c4) (by decide +kernel) rfl rfl rfl (by decide +kernel)
set_option maxRecDepth 65536 in
theorem w_c25 : (Jvm.Cond.code ({ cls := "java/util/TreeMap$Entry", name := "<init>", desc := "(Ljava/lang/Object;Ljava/lang/Object;Ljava/util/TreeMap$Entry;)V" } : Jvm.MethodName) jdk_2736_method_1_code (4 : Nat) (Option.none : Option Jvm.ClassFile.FieldType)).before args0 about1 = true := code_word (m := ⟨22, 0⟩) (meth := k22m0) (c := k22c0) (by decide +kernel) rfl rfl rfl (by decide +kernel)
set_option maxRecDepth 65536 in
theorem w_c26 : (Jvm.Cond.code ({ cls := "com/example/millwright/millwright/cut/Order$Builder", name := "piece", desc := "(JJ)Lcom/example/millwright/millwright/cut/Order$Builder;" } : Jvm.MethodName) prog_20_method_4_code (7 : Nat) (Option.some (Jvm.ClassFile.FieldType.object "com/example/millwright/millwright/cut/Order$Builder"))).before args0 about1 = true := code_word (m := ⟨7, 3⟩) (meth := k7m3) (c := k7c3) (by decide +kernel) rfl rfl rfl (by decide +kernel)
set_option maxRecDepth 65536 in
theorem w_c27 : (Jvm.Cond.code ({ cls := "java/util/AbstractMap", name := "isEmpty", desc := "()Z" } : Jvm.MethodName) jdk_71_method_3_code (1 : Nat) (Option.some Jvm.ClassFile.FieldType.boolean)).before args0 about1 = true := code_word (m := ⟨9, 2⟩) (meth := k9m2) (c := k9c2) (by decide +kernel) rfl rfl rfl (by decide +kernel)
set_option maxRecDepth 65536 in
theorem w_c28 : (Jvm.Cond.code ({ cls := "java/util/TreeMap", name := "size", desc := "()I" } : Jvm.MethodName) jdk_2729_method_5_code (1 : Nat) (Option.some Jvm.ClassFile.FieldType.int)).before args0 about1 = true := code_word (m := ⟨14, 2⟩) (meth := k14m2) (c := k14c2) (by decide +kernel) rfl rfl rfl (by decide +kernel)
set_option maxRecDepth 65536 in
theorem w_c29 : (Jvm.Cond.code ({ cls := "java/util/TreeMap", name := "keySet", desc := "()Ljava/util/Set;" } : Jvm.MethodName) jdk_2729_method_49_code (1 : Nat) (Option.some (Jvm.ClassFile.FieldType.object "java/util/Set"))).before args0 about1 = true := code_word (m := ⟨14, 10⟩) (meth := k14m10) (c := k14c10) (by decide +kernel) rfl rfl rfl (by decide +kernel)
set_option maxRecDepth 65536 in
theorem w_c30 : (Jvm.Cond.code ({ cls := "java/util/TreeMap", name := "navigableKeySet", desc := "()Ljava/util/NavigableSet;" } : Jvm.MethodName) jdk_2729_method_50_code (2 : Nat) (Option.some (Jvm.ClassFile.FieldType.object "java/util/NavigableSet"))).before args0 about1 = true := code_word (m := ⟨14, 11⟩) (meth := k14m11) (c := k14c11) (by decide +kernel) rfl rfl rfl (by decide +kernel)
set_option maxRecDepth 65536 in
theorem w_c31 : (Jvm.Cond.code ({ cls := "java/util/TreeMap$KeySet", name := "<init>", desc := "(Ljava/util/NavigableMap;)V" } : Jvm.MethodName) jdk_2741_method_1_code (2 : Nat) (Option.none : Option Jvm.ClassFile.FieldType)).before args0 about1 = true := code_word (m := ⟨32, 0⟩) (meth := k32m0) (c := k32c0) (by decide +kernel) rfl rfl rfl (by decide +kernel)
set_option maxRecDepth 65536 in
theorem w_c32 : (Jvm.Cond.code ({ cls := "java/util/AbstractSet", name := "<init>", desc := "()V" } : Jvm.MethodName) jdk_91_method_1_code (1 : Nat) (Option.none : Option Jvm.ClassFile.FieldType)).before args0 about1 = true := code_word (m := ⟨27, 0⟩) (meth := k27m0) (c := k27c0) (by decide +kernel) rfl rfl rfl (by decide +kernel)
set_option maxRecDepth 65536 in
theorem w_c33 : (Jvm.Cond.code ({ cls := "java/util/AbstractCollection", name := "<init>", desc := "()V" } : Jvm.MethodName) jdk_22_method_1_code (1 : Nat) (Option.none : Option Jvm.ClassFile.FieldType)).before args0 about1 = true := code_word (m := ⟨25, 0⟩) (meth := k25m0) (c := k25c0) (by decide +kernel) rfl rfl rfl (by decide +kernel)
set_option maxRecDepth 65536 in
theorem w_c34 : (Jvm.Cond.code ({ cls := "java/util/TreeMap$KeySet", name := "iterator", desc := "()Ljava/util/Iterator;" } : Jvm.MethodName) jdk_2741_method_2_code (1 : Nat) (Option.some (Jvm.ClassFile.FieldType.object "java/util/Iterator"))).before args0 about1 = true := code_word (m := ⟨32, 1⟩) (meth := k32m1) (c := k32c1) (by decide +kernel) rfl rfl rfl (by decide +kernel)
set_option maxRecDepth 65536 in
theorem w_c35 : (Jvm.Cond.code ({ cls := "java/util/TreeMap", name := "keyIterator", desc := "()Ljava/util/Iterator;" } : Jvm.MethodName) jdk_2729_method_65_code (1 : Nat) (Option.some (Jvm.ClassFile.FieldType.object "java/util/Iterator"))).before args0 about1 = true := code_word (m := ⟨14, 13⟩) (meth := k14m13) (c := k14c13) (by decide +kernel) rfl rfl rfl (by decide +kernel)
set_option maxRecDepth 65536 in
theorem w_c36 : (Jvm.Cond.code ({ cls := "java/util/TreeMap", name := "getFirstEntry", desc := "()Ljava/util/TreeMap$Entry;" } : Jvm.MethodName) jdk_2729_method_72_code (2 : Nat) (Option.some (Jvm.ClassFile.FieldType.object "java/util/TreeMap$Entry"))).before args0 about1 = true := code_word (m := ⟨14, 15⟩) (meth := k14m15) (c := k14c15) (by decide +kernel) rfl rfl rfl (by decide +kernel)
set_option maxRecDepth 65536 in
theorem w_c37 : (Jvm.Cond.code ({ cls := "java/util/TreeMap$KeyIterator", name := "<init>", desc := "(Ljava/util/TreeMap;Ljava/util/TreeMap$Entry;)V" } : Jvm.MethodName) jdk_2740_method_1_code (3 : Nat) (Option.none : Option Jvm.ClassFile.FieldType)).before args0 about1 = true := code_word (m := ⟨35, 0⟩) (meth := k35m0) (c := k35c0) (by decide +kernel) rfl rfl rfl (by decide +kernel)
set_option maxRecDepth 65536 in
theorem w_c38 : (Jvm.Cond.code ({ cls := "java/util/TreeMap$PrivateEntryIterator", name := "<init>", desc := "(Ljava/util/TreeMap;Ljava/util/TreeMap$Entry;)V" } : Jvm.MethodName) jdk_2750_method_1_code (3 : Nat) (Option.none : Option Jvm.ClassFile.FieldType)).before args0 about1 = true := code_word (m := ⟨34, 0⟩) (meth := k34m0) (c := k34c0) (by decide +kernel) rfl rfl rfl (by decide +kernel)
set_option maxRecDepth 65536 in
theorem w_c39 : (Jvm.Cond.code ({ cls := "java/util/TreeMap$KeyIterator", name := "next", desc := "()Ljava/lang/Object;" } : Jvm.MethodName) jdk_2740_method_2_code (1 : Nat) (Option.some (Jvm.ClassFile.FieldType.object "java/lang/Object"))).before args0 about1 = true := code_word (m := ⟨35, 1⟩) (meth := k35m1) (c := k35c1) (by decide +kernel) rfl rfl rfl (by decide +kernel)
set_option maxRecDepth 65536 in
theorem w_c40 : (Jvm.Cond.code ({ cls := "java/util/TreeMap$PrivateEntryIterator", name := "nextEntry", desc := "()Ljava/util/TreeMap$Entry;" } : Jvm.MethodName) jdk_2750_method_3_code (2 : Nat) (Option.some (Jvm.ClassFile.FieldType.object "java/util/TreeMap$Entry"))).before args0 about1 = true := code_word (m := ⟨34, 2⟩) (meth := k34m2) (c := k34c2) (by decide +kernel) rfl rfl rfl (by decide +kernel)
set_option maxRecDepth 65536 in
theorem w_c41 : (Jvm.Cond.code ({ cls := "java/util/TreeMap", name := "successor", desc := "(Ljava/util/TreeMap$Entry;)Ljava/util/TreeMap$Entry;" } : Jvm.MethodName) jdk_2729_method_74_code (3 : Nat) (Option.some (Jvm.ClassFile.FieldType.object "java/util/TreeMap$Entry"))).before args0 about1 = true := code_word (m := ⟨14, 16⟩) (meth := k14m16) (c := k14c16) (by decide +kernel) rfl rfl rfl (by decide +kernel)
set_option maxRecDepth 65536 in
theorem w_c42 : (Jvm.Cond.code ({ cls := "java/util/TreeMap", name := "entrySet", desc := "()Ljava/util/Set;" } : Jvm.MethodName) jdk_2729_method_53_code (2 : Nat) (Option.some (Jvm.ClassFile.FieldType.object "java/util/Set"))).before args0 about1 = true := code_word (m := ⟨14, 12⟩) (meth := k14m12) (c := k14c12) (by decide +kernel) rfl rfl rfl (by decide +kernel)
set_option maxRecDepth 65536 in
theorem w_c43 : (Jvm.Cond.code ({ cls := "java/util/TreeMap$EntrySet", name := "<init>", desc := "(Ljava/util/TreeMap;)V" } : Jvm.MethodName) jdk_2738_method_1_code (2 : Nat) (Option.none : Option Jvm.ClassFile.FieldType)).before args0 about1 = true := code_word (m := ⟨36, 0⟩) (meth := k36m0) (c := k36c0) (by decide +kernel) rfl rfl rfl (by decide +kernel)
set_option maxRecDepth 65536 in
theorem w_c44 : (Jvm.Cond.code ({ cls := "java/util/TreeMap$EntrySet", name := "iterator", desc := "()Ljava/util/Iterator;" } : Jvm.MethodName) jdk_2738_method_2_code (1 : Nat) (Option.some (Jvm.ClassFile.FieldType.object "java/util/Iterator"))).before args0 about1 = true := code_word (m := ⟨36, 1⟩) (meth := k36m1) (c := k36c1) (by decide +kernel) rfl rfl rfl (by decide +kernel)
set_option maxRecDepth 65536 in
theorem w_c45 : (Jvm.Cond.code ({ cls := "java/util/TreeMap$EntryIterator", name := "<init>", desc := "(Ljava/util/TreeMap;Ljava/util/TreeMap$Entry;)V" } : Jvm.MethodName) jdk_2737_method_1_code (3 : Nat) (Option.none : Option Jvm.ClassFile.FieldType)).before args0 about1 = true := code_word (m := ⟨37, 0⟩) (meth := k37m0) (c := k37c0) (by decide +kernel) rfl rfl rfl (by decide +kernel)
set_option maxRecDepth 65536 in
theorem w_c46 : (Jvm.Cond.code ({ cls := "java/util/TreeMap$PrivateEntryIterator", name := "hasNext", desc := "()Z" } : Jvm.MethodName) jdk_2750_method_2_code (1 : Nat) (Option.some Jvm.ClassFile.FieldType.boolean)).before args0 about1 = true := code_word (m := ⟨34, 1⟩) (meth := k34m1) (c := k34c1) (by decide +kernel) rfl rfl rfl (by decide +kernel)
set_option maxRecDepth 65536 in
theorem w_c47 : (Jvm.Cond.code ({ cls := "java/util/TreeMap$EntryIterator", name := "next", desc := "()Ljava/lang/Object;" } : Jvm.MethodName) jdk_2737_method_3_code (1 : Nat) (Option.some (Jvm.ClassFile.FieldType.object "java/lang/Object"))).before args0 about1 = true := code_word (m := ⟨37, 2⟩) (meth := k37m2) (c := k37c2) (by decide +kernel) rfl rfl rfl (by decide +kernel)
set_option maxRecDepth 65536 in
theorem w_c48 : (Jvm.Cond.code ({ cls := "java/util/TreeMap$EntryIterator", name := "next", desc := "()Ljava/util/Map$Entry;" } : Jvm.MethodName) jdk_2737_method_2_code (1 : Nat) (Option.some (Jvm.ClassFile.FieldType.object "java/util/Map$Entry"))).before args0 about1 = true := code_word (m := ⟨37, 1⟩) (meth := k37m1) (c := k37c1) (by decide +kernel) rfl rfl rfl (by decide +kernel)
set_option maxRecDepth 65536 in
theorem w_c49 : (Jvm.Cond.code ({ cls := "java/util/TreeMap$Entry", name := "getKey", desc := "()Ljava/lang/Object;" } : Jvm.MethodName) jdk_2736_method_2_code (1 : Nat) (Option.some (Jvm.ClassFile.FieldType.object "java/lang/Object"))).before args0 about1 = true := code_word (m := ⟨22, 1⟩) (meth := k22m1) (c := k22c1) (by decide +kernel) rfl rfl rfl (by decide +kernel)
set_option maxRecDepth 65536 in
theorem w_c50 : (Jvm.Cond.code ({ cls := "java/util/TreeMap$Entry", name := "getValue", desc := "()Ljava/lang/Object;" } : Jvm.MethodName) jdk_2736_method_3_code (1 : Nat) (Option.some (Jvm.ClassFile.FieldType.object "java/lang/Object"))).before args0 about1 = true := code_word (m := ⟨22, 2⟩) (meth := k22m2) (c := k22c2) (by decide +kernel) rfl rfl rfl (by decide +kernel)
set_option maxRecDepth 65536 in
theorem w_c51 : (Jvm.Cond.code ({ cls := "java/lang/Math", name := "addExact", desc := "(JJ)J" } : Jvm.MethodName) jdk_29_method_25_code (6 : Nat) (Option.some Jvm.ClassFile.FieldType.long)).before args0 about1 = true := code_word (m := ⟨38, 1⟩) (meth := k38m1) (c := k38c1) (by decide +kernel) rfl rfl rfl (by decide +kernel)
set_option maxRecDepth 65536 in
theorem w_c52 : (Jvm.Cond.code ({ cls := "java/lang/Math", name := "multiplyExact", desc := "(JJ)J" } : Jvm.MethodName) jdk_29_method_30_code (10 : Nat) (Option.some Jvm.ClassFile.FieldType.long)).before args0 about1 = true := code_word (m := ⟨38, 2⟩) (meth := k38m2) (c := k38c2) (by decide +kernel) rfl rfl rfl (by decide +kernel)
set_option maxRecDepth 65536 in
theorem w_c53 : (Jvm.Cond.code ({ cls := "java/lang/Math", name := "abs", desc := "(J)J" } : Jvm.MethodName) jdk_29_method_61_code (2 : Nat) (Option.some Jvm.ClassFile.FieldType.long)).before args0 about1 = true := code_word (m := ⟨38, 3⟩) (meth := k38m3) (c := k38c3) (by decide +kernel) rfl rfl rfl (by decide +kernel)
set_option maxRecDepth 65536 in
theorem w_c54 : (Jvm.Cond.code ({ cls := "com/example/millwright/millwright/cut/Order", name := "<init>", desc := "([J[J[J[J)V" } : Jvm.MethodName) prog_19_method_1_code (5 : Nat) (Option.none : Option Jvm.ClassFile.FieldType)).before args0 about1 = true := code_word (m := ⟨39, 0⟩) (meth := k39m0) (c := k39c0) (by decide +kernel) rfl rfl rfl (by decide +kernel)
set_option maxRecDepth 65536 in
theorem w_c55 : (Jvm.Cond.code ({ cls := "com/example/millwright/millwright/cut/Pattern", name := "<init>", desc := "(I[J)V" } : Jvm.MethodName) prog_23_method_1_code (3 : Nat) (Option.none : Option Jvm.ClassFile.FieldType)).before args0 about1 = true := code_word (m := ⟨40, 0⟩) (meth := k40m0) (c := k40c0) (by decide +kernel) rfl rfl rfl (by decide +kernel)
set_option maxRecDepth 65536 in
theorem w_c56 : (Jvm.Cond.code ({ cls := "java/util/Arrays", name := "hashCode", desc := "([J)I" } : Jvm.MethodName) jdk_65_method_149_code (8 : Nat) (Option.some Jvm.ClassFile.FieldType.int)).before args0 about1 = true := code_word (m := ⟨41, 1⟩) (meth := k41m1) (c := k41c1) (by decide +kernel) rfl rfl rfl (by decide +kernel)
set_option maxRecDepth 65536 in
theorem w_c57 : (Jvm.Cond.code ({ cls := "com/example/millwright/millwright/cut/Objective", name := "leastStockValue", desc := "()J" } : Jvm.MethodName) prog_17_method_8_code (1 : Nat) (Option.some Jvm.ClassFile.FieldType.long)).before args0 about1 = true := code_word (m := ⟨6, 1⟩) (meth := k6m1) (c := k6c1) (by decide +kernel) rfl rfl rfl (by decide +kernel)
set_option maxRecDepth 65536 in
theorem w_c58 : (Jvm.Cond.code ({ cls := "com/example/millwright/millwright/cut/Objective", name := "patternCost", desc := "(Lcom/example/millwright/millwright/cut/Order;Lcom/example/millwright/millwright/cut/Pattern;)J" } : Jvm.MethodName) prog_17_method_4_code (3 : Nat) (Option.some Jvm.ClassFile.FieldType.long)).before args0 about1 = true := code_word (m := ⟨6, 0⟩) (meth := k6m0) (c := k6c0) (by decide +kernel) rfl rfl rfl (by decide +kernel)
set_option maxRecDepth 65536 in
theorem w_c59 : (Jvm.Cond.code ({ cls := "com/example/millwright/millwright/cut/Pattern", name := "trim", desc := "(Lcom/example/millwright/millwright/cut/Order;)J" } : Jvm.MethodName) prog_23_method_6_code (2 : Nat) (Option.some Jvm.ClassFile.FieldType.long)).before args0 about1 = true := code_word (m := ⟨40, 2⟩) (meth := k40m2) (c := k40c2) (by decide +kernel) rfl rfl rfl (by decide +kernel)
set_option maxRecDepth 65536 in
theorem w_c60 : (Jvm.Cond.code ({ cls := "com/example/millwright/millwright/cut/Order", name := "stockLength", desc := "(I)J" } : Jvm.MethodName) prog_19_method_3_code (2 : Nat) (Option.some Jvm.ClassFile.FieldType.long)).before args0 about1 = true := code_word (m := ⟨39, 1⟩) (meth := k39m1) (c := k39c1) (by decide +kernel) rfl rfl rfl (by decide +kernel)
set_option maxRecDepth 65536 in
theorem w_c61 : (Jvm.Cond.code ({ cls := "com/example/millwright/millwright/cut/Pattern", name := "usedLength", desc := "(Lcom/example/millwright/millwright/cut/Order;)J" } : Jvm.MethodName) prog_23_method_5_code (5 : Nat) (Option.some Jvm.ClassFile.FieldType.long)).before args0 about1 = true := code_word (m := ⟨40, 1⟩) (meth := k40m1) (c := k40c1) (by decide +kernel) rfl rfl rfl (by decide +kernel)
set_option maxRecDepth 65536 in
theorem w_c62 : (Jvm.Cond.code ({ cls := "com/example/millwright/millwright/cut/Order", name := "length", desc := "(I)J" } : Jvm.MethodName) prog_19_method_9_code (2 : Nat) (Option.some Jvm.ClassFile.FieldType.long)).before args0 about1 = true := code_word (m := ⟨39, 2⟩) (meth := k39m2) (c := k39c2) (by decide +kernel) rfl rfl rfl (by decide +kernel)
def codes1 : List Jvm.Cond := [Jvm.Cond.code x code maxLocals ret, Jvm.Cond.code ({ cls := "com/example/millwright/millwright/cut/Order$Builder", name := "<init>", desc := "()V" } : Jvm.MethodName) prog_20_method_1_code (1 : Nat) (Option.none : Option Jvm.ClassFile.FieldType), Jvm.Cond.code ({ cls := "java/lang/Object", name := "<init>", desc := "()V" } : Jvm.MethodName) object_method_1_code (1 : Nat) (Option.none : Option Jvm.ClassFile.FieldType), Jvm.Cond.code ({ cls := "java/util/TreeMap", name := "<init>", desc := "(Ljava/util/Comparator;)V" } : Jvm.MethodName) jdk_2729_method_2_code (2 : Nat) (Option.none : Option Jvm.ClassFile.FieldType), Jvm.Cond.code ({ cls := "java/util/AbstractMap", name := "<init>", desc := "()V" } : Jvm.MethodName) jdk_71_method_1_code (1 : Nat) (Option.none : Option Jvm.ClassFile.FieldType), Jvm.Cond.code ({ cls := "com/example/millwright/millwright/cut/Order$Builder", name := "stock", desc := "(J)Lcom/example/millwright/millwright/cut/Order$Builder;" } : Jvm.MethodName) prog_20_method_2_code (3 : Nat) (Option.some (Jvm.ClassFile.FieldType.object "com/example/millwright/millwright/cut/Order$Builder")), Jvm.Cond.code ({ cls := "com/example/millwright/millwright/cut/Order$Builder", name := "stock", desc := "(JJ)Lcom/example/millwright/millwright/cut/Order$Builder;" } : Jvm.MethodName) prog_20_method_3_code (8 : Nat) (Option.some (Jvm.ClassFile.FieldType.object "com/example/millwright/millwright/cut/Order$Builder")), Jvm.Cond.code ({ cls := "java/lang/Long", name := "valueOf", desc := "(J)Ljava/lang/Long;" } : Jvm.MethodName) jdk_35_method_24_code (3 : Nat) (Option.some (Jvm.ClassFile.FieldType.object "java/lang/Long")), Jvm.Cond.code ({ cls := "java/util/Map", name := "getOrDefault", desc := "(Ljava/lang/Object;Ljava/lang/Object;)Ljava/lang/Object;" } : Jvm.MethodName) jdk_72_method_15_code (4 : Nat) (Option.some (Jvm.ClassFile.FieldType.object "java/lang/Object")), Jvm.Cond.code ({ cls := "java/util/TreeMap", name := "get", desc := "(Ljava/lang/Object;)Ljava/lang/Object;" } : Jvm.MethodName) jdk_2729_method_8_code (3 : Nat) (Option.some (Jvm.ClassFile.FieldType.object "java/lang/Object")), Jvm.Cond.code ({ cls := "java/util/TreeMap", name := "getEntry", desc := "(Ljava/lang/Object;)Ljava/util/TreeMap$Entry;" } : Jvm.MethodName) jdk_2729_method_15_code (5 : Nat) (Option.some (Jvm.ClassFile.FieldType.object "java/util/TreeMap$Entry")), Jvm.Cond.code ({ cls := "java/util/TreeMap", name := "getEntryUsingComparator", desc := "(Ljava/lang/Object;)Ljava/util/TreeMap$Entry;" } : Jvm.MethodName) jdk_2729_method_16_code (6 : Nat) (Option.some (Jvm.ClassFile.FieldType.object "java/util/TreeMap$Entry")), Jvm.Cond.code ({ cls := "java/util/TreeMap", name := "containsKey", desc := "(Ljava/lang/Object;)Z" } : Jvm.MethodName) jdk_2729_method_6_code (2 : Nat) (Option.some Jvm.ClassFile.FieldType.boolean), Jvm.Cond.code ({ cls := "java/lang/Long", name := "longValue", desc := "()J" } : Jvm.MethodName) jdk_35_method_31_code (1 : Nat) (Option.some Jvm.ClassFile.FieldType.long), Jvm.Cond.code ({ cls := "java/lang/Long", name := "<init>", desc := "(J)V" } : Jvm.MethodName) jdk_35_method_26_code (3 : Nat) (Option.none : Option Jvm.ClassFile.FieldType), Jvm.Cond.code ({ cls := "java/lang/Number", name := "<init>", desc := "()V" } : Jvm.MethodName) jdk_18_method_1_code (1 : Nat) (Option.none : Option Jvm.ClassFile.FieldType), Jvm.Cond.code ({ cls := "java/util/TreeMap", name := "put", desc := "(Ljava/lang/Object;Ljava/lang/Object;)Ljava/lang/Object;" } : Jvm.MethodName) jdk_2729_method_21_code (3 : Nat) (Option.some (Jvm.ClassFile.FieldType.object "java/lang/Object")), Jvm.Cond.code ({ cls := "java/util/TreeMap", name := "put", desc := "(Ljava/lang/Object;Ljava/lang/Object;Z)Ljava/lang/Object;" } : Jvm.MethodName) jdk_2729_method_31_code (10 : Nat) (Option.some (Jvm.ClassFile.FieldType.object "java/lang/Object")), Jvm.Cond.code ({ cls := "java/util/TreeMap", name := "addEntryToEmptyMap", desc := "(Ljava/lang/Object;Ljava/lang/Object;)V" } : Jvm.MethodName) jdk_2729_method_30_code (3 : Nat) (Option.none : Option Jvm.ClassFile.FieldType), Jvm.Cond.code ({ cls := "java/util/TreeMap", name := "compare", desc := "(Ljava/lang/Object;Ljava/lang/Object;)I" } : Jvm.MethodName) jdk_2729_method_67_code (3 : Nat) (Option.some Jvm.ClassFile.FieldType.int), Jvm.Cond.code ({ cls := "java/util/Collections$ReverseComparator", name := "compare", desc := "(Ljava/lang/Object;Ljava/lang/Object;)I" } : Jvm.MethodName) jdk_2483_method_5_code (3 : Nat) (Option.some Jvm.ClassFile.FieldType.int), Jvm.Cond.code ({ cls := "java/util/Collections$ReverseComparator", name := "compare", desc := "(Ljava/lang/Comparable;Ljava/lang/Comparable;)I" } : Jvm.MethodName) jdk_2483_method_2_code (3 : Nat) (Option.some Jvm.ClassFile.FieldType.int), Jvm.Cond.code ({ cls := "java/lang/Long", name := "compareTo", desc := "(Ljava/lang/Object;)I" } : Jvm.MethodName) jdk_35_method_64_code (2 : Nat) (Option.some Jvm.ClassFile.FieldType.int), Jvm.Cond.code ({ cls := "java/lang/Long", name := "compareTo", desc := "(Ljava/lang/Long;)I" } : Jvm.MethodName) jdk_35_method_41_code (2 : Nat) (Option.some Jvm.ClassFile.FieldType.int), Jvm.Cond.code ({ cls := "java/lang/Long", name := "compare", desc := "(JJ)I" } : Jvm.MethodName) jdk_35_method_42_code (4 : Nat) (Option.some Jvm.ClassFile.FieldType.int), Jvm.Cond.code ({ cls := "java/util/TreeMap$Entry", name := "<init>", desc := "(Ljava/lang/Object;Ljava/lang/Object;Ljava/util/TreeMap$Entry;)V" } : Jvm.MethodName) jdk_2736_method_1_code (4 : Nat) (Option.none : Option Jvm.ClassFile.FieldType), Jvm.Cond.code ({ cls := "com/example/millwright/millwright/cut/Order$Builder", name := "piece", desc := "(JJ)Lcom/example/millwright/millwright/cut/Order$Builder;" } : Jvm.MethodName) prog_20_method_4_code (7 : Nat) (Option.some (Jvm.ClassFile.FieldType.object "com/example/millwright/millwright/cut/Order$Builder")), Jvm.Cond.code ({ cls := "java/util/AbstractMap", name := "isEmpty", desc := "()Z" } : Jvm.MethodName) jdk_71_method_3_code (1 : Nat) (Option.some Jvm.ClassFile.FieldType.boolean), Jvm.Cond.code ({ cls := "java/util/TreeMap", name := "size", desc := "()I" } : Jvm.MethodName) jdk_2729_method_5_code (1 : Nat) (Option.some Jvm.ClassFile.FieldType.int), Jvm.Cond.code ({ cls := "java/util/TreeMap", name := "keySet", desc := "()Ljava/util/Set;" } : Jvm.MethodName) jdk_2729_method_49_code (1 : Nat) (Option.some (Jvm.ClassFile.FieldType.object "java/util/Set")), Jvm.Cond.code ({ cls := "java/util/TreeMap", name := "navigableKeySet", desc := "()Ljava/util/NavigableSet;" } : Jvm.MethodName) jdk_2729_method_50_code (2 : Nat) (Option.some (Jvm.ClassFile.FieldType.object "java/util/NavigableSet")), Jvm.Cond.code ({ cls := "java/util/TreeMap$KeySet", name := "<init>", desc := "(Ljava/util/NavigableMap;)V" } : Jvm.MethodName) jdk_2741_method_1_code (2 : Nat) (Option.none : Option Jvm.ClassFile.FieldType), Jvm.Cond.code ({ cls := "java/util/AbstractSet", name := "<init>", desc := "()V" } : Jvm.MethodName) jdk_91_method_1_code (1 : Nat) (Option.none : Option Jvm.ClassFile.FieldType), Jvm.Cond.code ({ cls := "java/util/AbstractCollection", name := "<init>", desc := "()V" } : Jvm.MethodName) jdk_22_method_1_code (1 : Nat) (Option.none : Option Jvm.ClassFile.FieldType), Jvm.Cond.code ({ cls := "java/util/TreeMap$KeySet", name := "iterator", desc := "()Ljava/util/Iterator;" } : Jvm.MethodName) jdk_2741_method_2_code (1 : Nat) (Option.some (Jvm.ClassFile.FieldType.object "java/util/Iterator")), Jvm.Cond.code ({ cls := "java/util/TreeMap", name := "keyIterator", desc := "()Ljava/util/Iterator;" } : Jvm.MethodName) jdk_2729_method_65_code (1 : Nat) (Option.some (Jvm.ClassFile.FieldType.object "java/util/Iterator")), Jvm.Cond.code ({ cls := "java/util/TreeMap", name := "getFirstEntry", desc := "()Ljava/util/TreeMap$Entry;" } : Jvm.MethodName) jdk_2729_method_72_code (2 : Nat) (Option.some (Jvm.ClassFile.FieldType.object "java/util/TreeMap$Entry")), Jvm.Cond.code ({ cls := "java/util/TreeMap$KeyIterator", name := "<init>", desc := "(Ljava/util/TreeMap;Ljava/util/TreeMap$Entry;)V" } : Jvm.MethodName) jdk_2740_method_1_code (3 : Nat) (Option.none : Option Jvm.ClassFile.FieldType), Jvm.Cond.code ({ cls := "java/util/TreeMap$PrivateEntryIterator", name := "<init>", desc := "(Ljava/util/TreeMap;Ljava/util/TreeMap$Entry;)V" } : Jvm.MethodName) jdk_2750_method_1_code (3 : Nat) (Option.none : Option Jvm.ClassFile.FieldType), Jvm.Cond.code ({ cls := "java/util/TreeMap$KeyIterator", name := "next", desc := "()Ljava/lang/Object;" } : Jvm.MethodName) jdk_2740_method_2_code (1 : Nat) (Option.some (Jvm.ClassFile.FieldType.object "java/lang/Object")), Jvm.Cond.code ({ cls := "java/util/TreeMap$PrivateEntryIterator", name := "nextEntry", desc := "()Ljava/util/TreeMap$Entry;" } : Jvm.MethodName) jdk_2750_method_3_code (2 : Nat) (Option.some (Jvm.ClassFile.FieldType.object "java/util/TreeMap$Entry")), Jvm.Cond.code ({ cls := "java/util/TreeMap", name := "successor", desc := "(Ljava/util/TreeMap$Entry;)Ljava/util/TreeMap$Entry;" } : Jvm.MethodName) jdk_2729_method_74_code (3 : Nat) (Option.some (Jvm.ClassFile.FieldType.object "java/util/TreeMap$Entry")), Jvm.Cond.code ({ cls := "java/util/TreeMap", name := "entrySet", desc := "()Ljava/util/Set;" } : Jvm.MethodName) jdk_2729_method_53_code (2 : Nat) (Option.some (Jvm.ClassFile.FieldType.object "java/util/Set")), Jvm.Cond.code ({ cls := "java/util/TreeMap$EntrySet", name := "<init>", desc := "(Ljava/util/TreeMap;)V" } : Jvm.MethodName) jdk_2738_method_1_code (2 : Nat) (Option.none : Option Jvm.ClassFile.FieldType), Jvm.Cond.code ({ cls := "java/util/TreeMap$EntrySet", name := "iterator", desc := "()Ljava/util/Iterator;" } : Jvm.MethodName) jdk_2738_method_2_code (1 : Nat) (Option.some (Jvm.ClassFile.FieldType.object "java/util/Iterator")), Jvm.Cond.code ({ cls := "java/util/TreeMap$EntryIterator", name := "<init>", desc := "(Ljava/util/TreeMap;Ljava/util/TreeMap$Entry;)V" } : Jvm.MethodName) jdk_2737_method_1_code (3 : Nat) (Option.none : Option Jvm.ClassFile.FieldType), Jvm.Cond.code ({ cls := "java/util/TreeMap$PrivateEntryIterator", name := "hasNext", desc := "()Z" } : Jvm.MethodName) jdk_2750_method_2_code (1 : Nat) (Option.some Jvm.ClassFile.FieldType.boolean), Jvm.Cond.code ({ cls := "java/util/TreeMap$EntryIterator", name := "next", desc := "()Ljava/lang/Object;" } : Jvm.MethodName) jdk_2737_method_3_code (1 : Nat) (Option.some (Jvm.ClassFile.FieldType.object "java/lang/Object")), Jvm.Cond.code ({ cls := "java/util/TreeMap$EntryIterator", name := "next", desc := "()Ljava/util/Map$Entry;" } : Jvm.MethodName) jdk_2737_method_2_code (1 : Nat) (Option.some (Jvm.ClassFile.FieldType.object "java/util/Map$Entry")), Jvm.Cond.code ({ cls := "java/util/TreeMap$Entry", name := "getKey", desc := "()Ljava/lang/Object;" } : Jvm.MethodName) jdk_2736_method_2_code (1 : Nat) (Option.some (Jvm.ClassFile.FieldType.object "java/lang/Object")), Jvm.Cond.code ({ cls := "java/util/TreeMap$Entry", name := "getValue", desc := "()Ljava/lang/Object;" } : Jvm.MethodName) jdk_2736_method_3_code (1 : Nat) (Option.some (Jvm.ClassFile.FieldType.object "java/lang/Object")), Jvm.Cond.code ({ cls := "java/lang/Math", name := "addExact", desc := "(JJ)J" } : Jvm.MethodName) jdk_29_method_25_code (6 : Nat) (Option.some Jvm.ClassFile.FieldType.long), Jvm.Cond.code ({ cls := "java/lang/Math", name := "multiplyExact", desc := "(JJ)J" } : Jvm.MethodName) jdk_29_method_30_code (10 : Nat) (Option.some Jvm.ClassFile.FieldType.long), Jvm.Cond.code ({ cls := "java/lang/Math", name := "abs", desc := "(J)J" } : Jvm.MethodName) jdk_29_method_61_code (2 : Nat) (Option.some Jvm.ClassFile.FieldType.long), Jvm.Cond.code ({ cls := "com/example/millwright/millwright/cut/Order", name := "<init>", desc := "([J[J[J[J)V" } : Jvm.MethodName) prog_19_method_1_code (5 : Nat) (Option.none : Option Jvm.ClassFile.FieldType), Jvm.Cond.code ({ cls := "com/example/millwright/millwright/cut/Pattern", name := "<init>", desc := "(I[J)V" } : Jvm.MethodName) prog_23_method_1_code (3 : Nat) (Option.none : Option Jvm.ClassFile.FieldType), Jvm.Cond.code ({ cls := "java/util/Arrays", name := "hashCode", desc := "([J)I" } : Jvm.MethodName) jdk_65_method_149_code (8 : Nat) (Option.some Jvm.ClassFile.FieldType.int), Jvm.Cond.code ({ cls := "com/example/millwright/millwright/cut/Objective", name := "leastStockValue", desc := "()J" } : Jvm.MethodName) prog_17_method_8_code (1 : Nat) (Option.some Jvm.ClassFile.FieldType.long), Jvm.Cond.code ({ cls := "com/example/millwright/millwright/cut/Objective", name := "patternCost", desc := "(Lcom/example/millwright/millwright/cut/Order;Lcom/example/millwright/millwright/cut/Pattern;)J" } : Jvm.MethodName) prog_17_method_4_code (3 : Nat) (Option.some Jvm.ClassFile.FieldType.long), Jvm.Cond.code ({ cls := "com/example/millwright/millwright/cut/Pattern", name := "trim", desc := "(Lcom/example/millwright/millwright/cut/Order;)J" } : Jvm.MethodName) prog_23_method_6_code (2 : Nat) (Option.some Jvm.ClassFile.FieldType.long), Jvm.Cond.code ({ cls := "com/example/millwright/millwright/cut/Order", name := "stockLength", desc := "(I)J" } : Jvm.MethodName) prog_19_method_3_code (2 : Nat) (Option.some Jvm.ClassFile.FieldType.long), Jvm.Cond.code ({ cls := "com/example/millwright/millwright/cut/Pattern", name := "usedLength", desc := "(Lcom/example/millwright/millwright/cut/Order;)J" } : Jvm.MethodName) prog_23_method_5_code (5 : Nat) (Option.some Jvm.ClassFile.FieldType.long), Jvm.Cond.code ({ cls := "com/example/millwright/millwright/cut/Order", name := "length", desc := "(I)J" } : Jvm.MethodName) prog_19_method_9_code (2 : Nat) (Option.some Jvm.ClassFile.FieldType.long)]
set_option maxRecDepth 65536 in
theorem codes_eq : words1.filter isCode = codes1 := rfl
theorem w_codes : ∀ c ∈ words1.filter isCode, c.before args0 about1 = true := by
  rw [codes_eq]
  intro c hc
  simp only [codes1, List.mem_cons, List.not_mem_nil, or_false] at hc
  rcases hc with rfl | rfl | rfl | rfl | rfl | rfl | rfl | rfl | rfl | rfl | rfl | rfl | rfl | rfl | rfl | rfl | rfl | rfl | rfl | rfl | rfl | rfl | rfl | rfl | rfl | rfl | rfl | rfl | rfl | rfl | rfl | rfl | rfl | rfl | rfl | rfl | rfl | rfl | rfl | rfl | rfl | rfl | rfl | rfl | rfl | rfl | rfl | rfl | rfl | rfl | rfl | rfl | rfl | rfl | rfl | rfl | rfl | rfl | rfl | rfl | rfl | rfl | rfl
  · exact w_c0
  · exact w_c1
  · exact w_c2
  · exact w_c3
  · exact w_c4
  · exact w_c5
  · exact w_c6
  · exact w_c7
  · exact w_c8
  · exact w_c9
  · exact w_c10
  · exact w_c11
  · exact w_c12
  · exact w_c13
  · exact w_c14
  · exact w_c15
  · exact w_c16
  · exact w_c17
  · exact w_c18
  · exact w_c19
  · exact w_c20
  · exact w_c21
  · exact w_c22
  · exact w_c23
  · exact w_c24
  · exact w_c25
  · exact w_c26
  · exact w_c27
  · exact w_c28
  · exact w_c29
  · exact w_c30
  · exact w_c31
  · exact w_c32
  · exact w_c33
  · exact w_c34
  · exact w_c35
  · exact w_c36
  · exact w_c37
  · exact w_c38
  · exact w_c39
  · exact w_c40
  · exact w_c41
  · exact w_c42
  · exact w_c43
  · exact w_c44
  · exact w_c45
  · exact w_c46
  · exact w_c47
  · exact w_c48
  · exact w_c49
  · exact w_c50
  · exact w_c51
  · exact w_c52
  · exact w_c53
  · exact w_c54
  · exact w_c55
  · exact w_c56
  · exact w_c57
  · exact w_c58
  · exact w_c59
  · exact w_c60
  · exact w_c61
  · exact w_c62
set_option maxRecDepth 65536 in
theorem w_t1 : (words1.take 24).all (fun c => isCode c || c.before args0 about1) = true := by decide +kernel
set_option maxRecDepth 65536 in
theorem w_t2 : ((words1.drop 24).take 24).all (fun c => isCode c || c.before args0 about1) = true := by decide +kernel
set_option maxRecDepth 65536 in
theorem w_t3 : (((words1.drop 24).drop 24).take 24).all (fun c => isCode c || c.before args0 about1) = true := by decide +kernel
set_option maxRecDepth 65536 in
theorem w_t4 : ((((words1.drop 24).drop 24).drop 24).take 24).all (fun c => isCode c || c.before args0 about1) = true := by decide +kernel
set_option maxRecDepth 65536 in
theorem w_t5 : (((((words1.drop 24).drop 24).drop 24).drop 24).take 24).all (fun c => isCode c || c.before args0 about1) = true := by decide +kernel
set_option maxRecDepth 65536 in
theorem w_t6 : ((((((words1.drop 24).drop 24).drop 24).drop 24).drop 24).take 24).all (fun c => isCode c || c.before args0 about1) = true := by decide +kernel
set_option maxRecDepth 65536 in
theorem w_t7 : (((((((words1.drop 24).drop 24).drop 24).drop 24).drop 24).drop 24).take 24).all (fun c => isCode c || c.before args0 about1) = true := by decide +kernel
set_option maxRecDepth 65536 in
theorem w_t8 : ((((((((words1.drop 24).drop 24).drop 24).drop 24).drop 24).drop 24).drop 24).take 24).all (fun c => isCode c || c.before args0 about1) = true := by decide +kernel
set_option maxRecDepth 65536 in
theorem w_t9 : (((((((((words1.drop 24).drop 24).drop 24).drop 24).drop 24).drop 24).drop 24).drop 24).take 24).all (fun c => isCode c || c.before args0 about1) = true := by decide +kernel
set_option maxRecDepth 65536 in
theorem w_t10 : ((((((((((words1.drop 24).drop 24).drop 24).drop 24).drop 24).drop 24).drop 24).drop 24).drop 24).take 24).all (fun c => isCode c || c.before args0 about1) = true := by decide +kernel
set_option maxRecDepth 65536 in
theorem w_t11 : (((((((((((words1.drop 24).drop 24).drop 24).drop 24).drop 24).drop 24).drop 24).drop 24).drop 24).drop 24).take 24).all (fun c => isCode c || c.before args0 about1) = true := by decide +kernel
set_option maxRecDepth 65536 in
theorem w_t12 : ((((((((((((words1.drop 24).drop 24).drop 24).drop 24).drop 24).drop 24).drop 24).drop 24).drop 24).drop 24).drop 24).take 24).all (fun c => isCode c || c.before args0 about1) = true := by decide +kernel
set_option maxRecDepth 65536 in
theorem w_t13 : (((((((((((((words1.drop 24).drop 24).drop 24).drop 24).drop 24).drop 24).drop 24).drop 24).drop 24).drop 24).drop 24).drop 24).take 24).all (fun c => isCode c || c.before args0 about1) = true := by decide +kernel
set_option maxRecDepth 65536 in
theorem w_t14 : ((((((((((((((words1.drop 24).drop 24).drop 24).drop 24).drop 24).drop 24).drop 24).drop 24).drop 24).drop 24).drop 24).drop 24).drop 24).take 24).all (fun c => isCode c || c.before args0 about1) = true := by decide +kernel
set_option maxRecDepth 65536 in
theorem w_t15 : (((((((((((((((words1.drop 24).drop 24).drop 24).drop 24).drop 24).drop 24).drop 24).drop 24).drop 24).drop 24).drop 24).drop 24).drop 24).drop 24).take 24).all (fun c => isCode c || c.before args0 about1) = true := by decide +kernel
set_option maxRecDepth 65536 in
theorem w_t16 : ((((((((((((((((words1.drop 24).drop 24).drop 24).drop 24).drop 24).drop 24).drop 24).drop 24).drop 24).drop 24).drop 24).drop 24).drop 24).drop 24).drop 24).take 24).all (fun c => isCode c || c.before args0 about1) = true := by decide +kernel
set_option maxRecDepth 65536 in
theorem w_t17 : (((((((((((((((((words1.drop 24).drop 24).drop 24).drop 24).drop 24).drop 24).drop 24).drop 24).drop 24).drop 24).drop 24).drop 24).drop 24).drop 24).drop 24).drop 24).take 24).all (fun c => isCode c || c.before args0 about1) = true := by decide +kernel
set_option maxRecDepth 65536 in
theorem w_t18 : ((((((((((((((((((words1.drop 24).drop 24).drop 24).drop 24).drop 24).drop 24).drop 24).drop 24).drop 24).drop 24).drop 24).drop 24).drop 24).drop 24).drop 24).drop 24).drop 24).take 24).all (fun c => isCode c || c.before args0 about1) = true := by decide +kernel
set_option maxRecDepth 65536 in
theorem w_t19 : (((((((((((((((((((words1.drop 24).drop 24).drop 24).drop 24).drop 24).drop 24).drop 24).drop 24).drop 24).drop 24).drop 24).drop 24).drop 24).drop 24).drop 24).drop 24).drop 24).drop 24).take 24).all (fun c => isCode c || c.before args0 about1) = true := by decide +kernel
set_option maxRecDepth 65536 in
theorem w_t20 : ((((((((((((((((((((words1.drop 24).drop 24).drop 24).drop 24).drop 24).drop 24).drop 24).drop 24).drop 24).drop 24).drop 24).drop 24).drop 24).drop 24).drop 24).drop 24).drop 24).drop 24).drop 24).take 24).all (fun c => isCode c || c.before args0 about1) = true := by decide +kernel
set_option maxRecDepth 65536 in
theorem w_t21 : ((((((((((((((((((((words1.drop 24).drop 24).drop 24).drop 24).drop 24).drop 24).drop 24).drop 24).drop 24).drop 24).drop 24).drop 24).drop 24).drop 24).drop 24).drop 24).drop 24).drop 24).drop 24).drop 24).all (fun c => isCode c || c.before args0 about1) = true := by decide +kernel
theorem w_tables : (allAtoms (Jvm.Cond.code x code maxLocals ret :: tables_1)).before args0 about1 = true := by
  rw [allAtoms_all]
  show words1.all (fun c => c.before args0 about1) = true
  refine all_split ?_ w_codes
  rw [← List.take_append_drop 24 words1, List.all_append, w_t1, ← List.take_append_drop 24 (words1.drop 24), List.all_append, w_t2, ← List.take_append_drop 24 ((words1.drop 24).drop 24), List.all_append, w_t3, ← List.take_append_drop 24 (((words1.drop 24).drop 24).drop 24), List.all_append, w_t4, ← List.take_append_drop 24 ((((words1.drop 24).drop 24).drop 24).drop 24), List.all_append, w_t5, ← List.take_append_drop 24 (((((words1.drop 24).drop 24).drop 24).drop 24).drop 24), List.all_append, w_t6, ← List.take_append_drop 24 ((((((words1.drop 24).drop 24).drop 24).drop 24).drop 24).drop 24), List.all_append, w_t7, ← List.take_append_drop 24 (((((((words1.drop 24).drop 24).drop 24).drop 24).drop 24).drop 24).drop 24), List.all_append, w_t8, ← List.take_append_drop 24 ((((((((words1.drop 24).drop 24).drop 24).drop 24).drop 24).drop 24).drop 24).drop 24), List.all_append, w_t9, ← List.take_append_drop 24 (((((((((words1.drop 24).drop 24).drop 24).drop 24).drop 24).drop 24).drop 24).drop 24).drop 24), List.all_append, w_t10, ← List.take_append_drop 24 ((((((((((words1.drop 24).drop 24).drop 24).drop 24).drop 24).drop 24).drop 24).drop 24).drop 24).drop 24), List.all_append, w_t11, ← List.take_append_drop 24 (((((((((((words1.drop 24).drop 24).drop 24).drop 24).drop 24).drop 24).drop 24).drop 24).drop 24).drop 24).drop 24), List.all_append, w_t12, ← List.take_append_drop 24 ((((((((((((words1.drop 24).drop 24).drop 24).drop 24).drop 24).drop 24).drop 24).drop 24).drop 24).drop 24).drop 24).drop 24), List.all_append, w_t13, ← List.take_append_drop 24 (((((((((((((words1.drop 24).drop 24).drop 24).drop 24).drop 24).drop 24).drop 24).drop 24).drop 24).drop 24).drop 24).drop 24).drop 24), List.all_append, w_t14, ← List.take_append_drop 24 ((((((((((((((words1.drop 24).drop 24).drop 24).drop 24).drop 24).drop 24).drop 24).drop 24).drop 24).drop 24).drop 24).drop 24).drop 24).drop 24), List.all_append, w_t15, ← List.take_append_drop 24 (((((((((((((((words1.drop 24).drop 24).drop 24).drop 24).drop 24).drop 24).drop 24).drop 24).drop 24).drop 24).drop 24).drop 24).drop 24).drop 24).drop 24), List.all_append, w_t16, ← List.take_append_drop 24 ((((((((((((((((words1.drop 24).drop 24).drop 24).drop 24).drop 24).drop 24).drop 24).drop 24).drop 24).drop 24).drop 24).drop 24).drop 24).drop 24).drop 24).drop 24), List.all_append, w_t17, ← List.take_append_drop 24 (((((((((((((((((words1.drop 24).drop 24).drop 24).drop 24).drop 24).drop 24).drop 24).drop 24).drop 24).drop 24).drop 24).drop 24).drop 24).drop 24).drop 24).drop 24).drop 24), List.all_append, w_t18, ← List.take_append_drop 24 ((((((((((((((((((words1.drop 24).drop 24).drop 24).drop 24).drop 24).drop 24).drop 24).drop 24).drop 24).drop 24).drop 24).drop 24).drop 24).drop 24).drop 24).drop 24).drop 24).drop 24), List.all_append, w_t19, ← List.take_append_drop 24 (((((((((((((((((((words1.drop 24).drop 24).drop 24).drop 24).drop 24).drop 24).drop 24).drop 24).drop 24).drop 24).drop 24).drop 24).drop 24).drop 24).drop 24).drop 24).drop 24).drop 24).drop 24), List.all_append, w_t20, w_t21]
  rfl
set_option maxRecDepth 65536 in
theorem w_rest : rest_1_c.before args0 about1 = true := by decide +kernel
set_option maxRecDepth 65536 in
theorem w_case : (Jvm.Cond.and given_1 narrow_1).before args0 about1 = true := by decide +kernel
theorem w_applies : (headSpec (Jvm.Cond.code x code maxLocals ret :: tables_1) room_1).applies x e0.platform about1 = true :=
  (Spec.applies_iff w_frames).mpr ⟨w_running, w_runnable, w_alone, w_named, w_hears, w_ripe, w_room, w_tables⟩
theorem atStart : AtStart classFile x code maxLocals ret World_1 tables_1 room_1 Calls_1 rest_1 Pre_1 launch0 p0 e0 about1 theMethod args0 below0 :=
  ⟨lists_1, trivial, launch0.admits_env _ _ _, launch0.least_env, fairChoices_fair.cas, fairChoices_fair.clock, w_frames, w_args, w_heap, w_applies, trivial, w_rest, w_case⟩
end start1
theorem witness_1 : WitnessClaimed_1 := ⟨start1.p0, start1.e0, start1.about1, start1.theMethod, start1.args0, start1.below0, start1.atStart⟩
end Jvm.Pilot.@@N@@
