import JvmDerived
import JvmDerived.Pilot.@@N@@Statement
import JvmDerived.Pilot.@@N@@Code
set_option linter.unusedVariables false
set_option linter.unusedSimpArgs false
namespace Jvm.Pilot.@@N@@
open Jvm Jvm.ClassFile Sem Op Lib Jvm.Free Jvm.Stand Jvm.LawKit Jvm.RoadKit Bundle Jvm.Pilot.@@N@@.Jvm.D
abbrev own_Go (tb : Tables) (e : Env) (below : List Frame) (P : State → Outcome → Prop) (st : State) : Prop := ∃ U o, Steps tb e below st U ∧ P U o
theorem own_go {tb : Tables} {e : Env} {below : List Frame} {P : State → Outcome → Prop} {st st' : State} (h : ∀ t, Steps tb e below st' t → Steps tb e below st t) (k : own_Go tb e below P st') : own_Go tb e below P st := by
  obtain ⟨U, o, h1, h2⟩ := k; exact ⟨U, o, h _ h1, h2⟩
abbrev oT (T : State) (m : MethodId) (pc : Nat) (l : Array Slot) (s : List Value) : State := T.setTop (mkF m pc l s)
theorem ow {tb : Tables} {e : Env} {below : List Frame} {P : State → Outcome → Prop} {st : State} (st' : State) (h : ∀ t, Steps tb e below st' t → Steps tb e below st t) (k : own_Go tb e below P st') : own_Go tb e below P st := own_go h k
theorem own_fin {tb : Tables} {e : Env} {below : List Frame} {st st' : State} {R : State → Outcome → Prop} (h : ∀ t, Steps tb e below st' t → Steps tb e below st t) (k : ∀ P : State → Outcome → Prop, (∀ U o, U.status = .running → Ended U below o → R U o → P U o) → own_Go tb e below P st') : ∃ s₂ o, Steps tb e below st s₂ ∧ s₂.status = .running ∧ Ended s₂ below o ∧ R s₂ o :=
  own_go h (k _ (fun _ _ h1 h2 h3 => ⟨h1, h2, h3⟩))
theorem own_hw {a0 : Array Value} {Z : State} {d : Jvm.Cond} (hw : ∀ d ∈ tables_1, d.before a0 Z = true) (i : Nat) (h : tables_1[i]? = some d := by rfl) : d.before a0 Z = true := hw _ (List.mem_of_getElem? h)
theorem own_ne {a b : Nat} (h : a < b ∨ b < a) : a ≠ b := by omega
theorem own_o1 {a b n s : Nat} (h : @LT.lt Nat _ a n ∨ s ≤ a) (h1 : n ≤ b) (h2 : b < s) : a < b ∨ b < a := by omega
theorem own_o2 {a b n s : Nat} (h : @LT.lt Nat _ b n ∨ s ≤ b) (h1 : n ≤ a) (h2 : a < s) : a < b ∨ b < a := by omega
theorem own_nr {a b : Nat} (h : a < b ∨ b < a := by first | assumption | exact Or.symm (by assumption) | exact own_o1 (by assumption) (by omega) (by omega) | exact own_o2 (by assumption) (by omega) (by omega) | omega) : a < b ∨ b < a := h
theorem own_nq {a b : Nat} (h : a < b ∨ b < a := by first | assumption | exact Or.symm (by assumption) | exact own_o1 (by assumption) (by omega) (by omega) | exact own_o2 (by assumption) (by omega) (by omega) | omega) : a ≠ b := own_ne h
theorem own_cat {v : Value} (h : v.isRef = true) : v.category = 1 := by rcases ref_cases h with rfl | ⟨a, rfl⟩ <;> rfl
theorem own_nar_ref {t : FieldType} {v : Value} (h : v.isRef = true) : narrow t v = v := by rcases ref_cases h with rfl | ⟨a, rfl⟩ <;> cases t <;> rfl
theorem own_fit_ref {t : FieldType} {v : Value} (h : v.isRef = true) (ht : t.isReference = true := by rfl) : fits t v = true := by rcases ref_cases h with rfl | ⟨a, rfl⟩ <;> cases t <;> first | rfl | (cases ht)
theorem own_widen {p : Program} {l : Launch} {e : Env} {R : Room} {s : State} {m : MethodId} {args : Array Value} {below : List Frame} {meth : Method} {c : Code} {T : State} {locs : List Loc} {cells slots cells' slots' : Nat} (X : Stand p l e R s m args below meth c T locs cells slots) (h1 : cells ≤ cells') (h2 : slots ≤ slots') : Stand p l e R s m args below meth c T locs cells' slots' :=
  { X with same := X.same.mono h1 h2 }
theorem own_sel_priv {s : State} {args : Array Value} {y : MethodName} {n : Nat} (wi : (Jvm.Cond.instantiable y.cls n).before args s = true) (hp : s.PrivateAt y) (hinst : (Jvm.Cond.instanceMethod y).before args s = true) (hy : y.cls ≠ "java/lang/invoke/MethodHandle" ∧ y.cls ≠ "java/lang/invoke/VarHandle") : (Jvm.Cond.selects y.cls y y).before args s = true := by
  obtain ⟨c, k, h1, h2, -, h4, -⟩ := Cond.instantiable_spec wi
  exact selects_self_of_private h1 h2 (Bool.or_eq_false_iff.mp h4).1 hp hinst hy
theorem own_NS_root {Z : State} {a0 : Array Value} {O K : String} {n : Nat} (w : (Cond.noSuperclass O).before a0 Z = true) (wk : (Cond.instantiable K n).before a0 Z = true) (hn : O ≠ K) : NS Z O K := by
  obtain ⟨c, k, h1, h2, h3, -, -⟩ := Cond.noSuperclass_spec w
  obtain ⟨t, -, g1, -⟩ := Cond.instantiable_spec wk
  have ne := ids_ne h1 g1 hn
  refine ⟨c, t, h1, g1, fun fuel => ?_⟩
  cases fuel with
  | zero => rfl
  | succ f => simp [Vm.isSubclassAux, ne, h2, h3]
theorem own_NS_no {Z : State} {a0 : Array Value} {C S K : String} {n : Nat} (w : (Cond.superclass C S).before a0 Z = true) (wk : (Cond.instantiable K n).before a0 Z = true) (m : NS Z C K) (hn : C ≠ K) : ∃ c t, Z.vm.findClass C = some c ∧ Z.vm.findClass K = some t ∧ Z.vm.assignable c t = false := by
  obtain ⟨c, t, h0, g0, n3⟩ := m
  obtain ⟨p, k, kp, h1, h2, h3, h4, h5, -, h7⟩ := Cond.superclass_spec h0 w
  obtain ⟨t', k', q1, g2, g5, g6, -, -⟩ := Cond.instantiable_spec wk
  cases g0.symm.trans q1
  have g7 : k'.isInterface = false := (Bool.or_eq_false_iff.mp g6).1
  have ne := ids_ne h0 g0 hn
  refine ⟨c, t, h0, g0, ?_⟩
  show Z.vm.assignableAux (255 + 1) c t = false
  simp [Vm.assignableAux, ne, h2, g2, h5, g5, g7, Vm.isSubclass, n3]
theorem own_getR {p : Program} {l : Launch} {e : Env} {R : Room} {s Z : State} {m : MethodId} {args a0 : Array Value} {below : List Frame} {meth : Method} {c : Code} {T : State} {locs : List Loc} {cells slots : Nat} {h : Heap} (X : Stand p l e R s m args below meth c T locs cells slots) (hx : p.tables.exec = Jvm.exec) (hZ : Z.Warmed39 s.vm) {own O n d : String} {index : Nat} (hown : s.vm.findClass own = some m.cls) (w : (Cond.fieldRef own index O n d).before a0 Z = true)
    (eT : T.heap = h) {a : Addr} {v : Value} (F : Fld Z h a O n d v) {g : JFrame} (hg : g.method = m) {rest : List Value} (hs : g.stack = .ref a :: rest) (hd : decode c.code g.pc = .ok (.getfield index, 3)) : ∃ T', Stand p l e R s m args below meth c T' locs cells slots ∧ T'.heap = h ∧ ∀ target, Steps p.tables e below (T'.setTop { g with pc := g.pc + 3, stack := v :: rest }) target → Steps p.tables e below (T.setTop g) target := by
  obtain ⟨cell, cf, k, i, f, h1, h2, h3, h4, -, -, h7⟩ := F
  have hT : Z.Warmed39 T.vm := wtrans hZ X.warmed
  have w1 := Cond.fieldRef_warmed39 hT w
  have hc : (Z.setVm T.vm).vm.findClass own = some m.cls := by show T.vm.findClass own = _; rw [X.warmed.alike.findClass]; exact hown
  obtain ⟨c', k', i', f', q1, q2⟩ := Cond.fieldRef_spec hc w1
  obtain ⟨k2, hi, -⟩ := State.fieldFound?_setVm (s := Z) hT.alike h2
  have z := hi.symm.trans q1
  simp only [Option.some.injEq, Prod.mk.injEq] at z
  obtain ⟨-, -, -, rfl⟩ := z
  exact ⟨T, X, eT, fun _ k => (X.getfieldR hx hg q2 h3 hs (by rw [eT]; exact h1) h4 h7 hd (Steps.refl _)).trans k⟩
theorem own_mvMN {Z s : State} {a0 args : Array Value} {own host : String} {x : MethodName} {index : Nat} (hZ : Z.Warmed39 s.vm) (w : (Cond.methodLinkNest own index x host).before a0 Z = true) : (Cond.methodLinkNest own index x host).before args s = true := (Cond.methodLinkNest_wide hZ w :)
theorem own_nf_sel {s : State} {args : Array Value} {C : String} {x y z : MethodName} (h : (Cond.selects C x z).before args s = true) (hc : z.cls = y.cls) : NotFace s y := fun r0 h0 => by
  obtain ⟨c2, r2, m2, q1, q2, q3, q4, kP, hkP, hkPi⟩ := Cond.selects_spec h
  have e1 := findClass_of_methodNamed q3
  have e2 := findClass_of_methodNamed h0
  rw [hc] at e1
  have e3 : m2.cls = r0.cls := Option.some.inj (e1.symm.trans e2)
  exact ⟨kP, by rw [← e3]; exact hkP, hkPi⟩
theorem own_sta_keep {Z : State} {h h' : Heap} {ws : List Addr} {C n d : String} {v : Value} (F : Sta Z h C n d v) (K : Keep h h' ws) (q : ∀ x ∈ ws, ∀ c : Cell, h[x]? = some c → c.vm.isStatics = false) : Sta Z h' C n d v := by
  obtain ⟨cf, i, k, f, st, cell, h1, h2, h3, h4, h5, h6, h7⟩ := F
  exact ⟨cf, i, k, f, st, cell, h1, h2, h3, h4, K.2.1 st cell h5 (fun z => by rw [q st z cell h5] at h6; cases h6), h6, h7⟩
theorem own_pl_exa {Z : State} {h : Heap} {a : Addr} {C : String} (F : Exa Z h a C) : ∀ c : Cell, h[a]? = some c → c.vm.isStatics = false := fun c hc => by
  obtain ⟨c1, k, h1, -, -, h4, -⟩ := F; cases h1.symm.trans hc; exact h4
theorem own_pl_fld {Z : State} {h : Heap} {a : Addr} {C n d : String} {v : Value} (F : Fld Z h a C n d v) : ∀ c : Cell, h[a]? = some c → c.vm.isStatics = false := old_plain F
theorem own_pl_arv {Z : State} {h : Heap} {a : Addr} {k : ClassId} {ty : FieldType} {n : Int32} {vs : List Value} {d : Value} (F : Arv Z h a k ty n vs d) : ∀ c : Cell, h[a]? = some c → c.vm.isStatics = false := fun c hc => by
  obtain ⟨c1, A, -⟩ := F; cases A.1.symm.trans hc; exact A.plain
theorem own_fld {args : Array Value} {s : State} {t : Term} {C n d : String} {a : Addr} {k : Int32} (ev : t.eval args s none [] s = some (.ref a)) (h : (Jvm.Cond.eq (.field t C n d) (.int k)).value args s none s [] = some true) : Fld s s.heap a C n d (.int k) := by
  obtain ⟨x, y, e1, e2, -, k2⟩ := cmp_v (Or.inl h)
  obtain rfl : Value.int k = y := Option.some.inj e2
  obtain ⟨z, rfl⟩ := k2
  have q : z = k := by
    simp only [Cond.value] at h
    rw [e1, e2] at h
    simpa using h
  subst q
  rw [fld_at ev] at e1
  exact Fld.start e1
theorem own_len {args : Array Value} {s : State} {t : Term} {a : Addr} {cl : Cell} {n : Int32} (ev : t.eval args s none [] s = some (.ref a)) (hc : s.heap[a]? = some cl) (h : (Jvm.Cond.eq (.length t) (.int n)).value args s none s [] = some true) : cl.slots.size < 2 ^ 31 ∧ cl.slots.size.toInt32 = n := by
  obtain ⟨x, y, e1, e2, -, -⟩ := cmp_v (Or.inl h)
  obtain rfl : Value.int n = y := Option.some.inj e2
  obtain ⟨b, cell, g1, g2, rfl⟩ := Term.length_spec e1
  cases ev.symm.trans g1
  have g3 : cell.slots.size < 2 ^ 31 := by
    apply Decidable.byContradiction
    intro q
    simp [Term.eval, ev, g2, q] at e1
  have g4 : cell = cl := by
    simp only [State.arrayAt?, Option.bind_eq_bind, Option.bind_eq_some_iff] at g2
    obtain ⟨c2, q1, k2, q2, q3⟩ := g2
    split at q3
    · cases q3
    · split at q3
      · cases q3; exact Option.some.inj (q1.symm.trans hc)
      · cases q3
  rw [← g4]
  refine ⟨g3, ?_⟩
  simp only [Cond.value] at h
  rw [e1, e2] at h
  simpa using h
theorem own_elem {args : Array Value} {s : State} {t u : Term} {a b : Addr} {cl : Cell} {k : Int32} (ev : t.eval args s none [] s = some (.ref a)) (hc : s.heap[a]? = some cl) (eu : u.eval args s none [] s = some (.ref b)) (h : (Jvm.Cond.eq (.elem t (.int k)) u).value args s none s [] = some true) : cl.slots[k.toNatClampNeg]? = some (.ref b) := by
  obtain ⟨x, y, e1, e2, -, -⟩ := cmp_v (Or.inl h)
  cases eu.symm.trans e2
  have q := (elem_in e1 ev rfl hc).2
  have : x = .ref b := by
    simp only [Cond.value] at h
    rw [e1, e2] at h
    cases x <;> simp at h ⊢
    exact h
  rw [q, this]
def own_lat (c : Int32) : Prop := ∃ k : Fin 256, c = Int32.ofNat k.1
def own_by (c : Int32) : Int32 := nar .byte c.toInt8.toInt32
theorem own_lat_le {c : Int32} (h : own_lat c) : ¬ (255 : Int32) < c := by obtain ⟨k, rfl⟩ := h; revert k; decide +kernel
theorem own_lat_ch {c : Int32} (h : own_lat c) : nar .char c = c := by obtain ⟨k, rfl⟩ := h; revert k; decide +kernel
theorem own_by_back {c : Int32} (h : own_lat c) : own_by c &&& 255 = c := by obtain ⟨k, rfl⟩ := h; revert k; decide +kernel
theorem own_by_iff {c d : Int32} (h : own_lat c) (g : own_lat d) : own_by c = own_by d ↔ c = d := ⟨fun q => by rw [← own_by_back h, q, own_by_back g], fun q => by rw [q]⟩
theorem own_lat_and (x : Int32) : own_lat (x &&& (255 : Int32)).toUInt32.toUInt16.toUInt32.toInt32 := by
  obtain ⟨h1, h2⟩ := c_and x 255 (by decide)
  have e : (255 : Int32).toInt = 255 := rfl
  rw [e] at h2
  have h3 : x &&& 255 = Int32.ofNat (x &&& 255).toInt.toNat := by
    apply Int32.toInt_inj.mp
    rw [Int32.toInt_ofNat_of_lt (by omega)]; omega
  have h4 : ∀ k : Fin 256, (Int32.ofNat k.1).toUInt32.toUInt16.toUInt32.toInt32 = Int32.ofNat k.1 := by decide +kernel
  rw [h3, h4 ⟨(x &&& 255).toInt.toNat, by omega⟩]
  exact ⟨⟨(x &&& 255).toInt.toNat, by omega⟩, rfl⟩
def own_eq1 (w0 z0 : Int32) : Int32 := (if w0 = z0 then 1 else 0)
theorem own_eq1_one {w0 z0 : Int32} (h : ¬ own_eq1 w0 z0 = (0 : Int32)) : own_eq1 w0 z0 = 1 := by unfold own_eq1 at h ⊢; by_cases q0 : w0 = z0 <;> simp_all
def own_eq2 (w0 w1 z0 z1 : Int32) : Int32 := (if w0 = z0 then (if w1 = z1 then 1 else 0) else 0)
theorem own_eq2_one {w0 w1 z0 z1 : Int32} (h : ¬ own_eq2 w0 w1 z0 z1 = (0 : Int32)) : own_eq2 w0 w1 z0 z1 = 1 := by unfold own_eq2 at h ⊢; by_cases q0 : w0 = z0 <;> by_cases q1 : w1 = z1 <;> simp_all
def own_eq3 (w0 w1 w2 z0 z1 z2 : Int32) : Int32 := (if w0 = z0 then (if w1 = z1 then (if w2 = z2 then 1 else 0) else 0) else 0)
theorem own_eq3_one {w0 w1 w2 z0 z1 z2 : Int32} (h : ¬ own_eq3 w0 w1 w2 z0 z1 z2 = (0 : Int32)) : own_eq3 w0 w1 w2 z0 z1 z2 = 1 := by unfold own_eq3 at h ⊢; by_cases q0 : w0 = z0 <;> by_cases q1 : w1 = z1 <;> by_cases q2 : w2 = z2 <;> simp_all
def own_EL : List (String × Nat) := [("java/lang/String", 7)]
theorem own_ew {a0 : Array Value} {Z : State} (hw : ∀ d ∈ tables_1, d.before a0 Z = true) : EW Z a0 own_EL := (EW.cons (own_hw hw 216) (by decide) EW.nil)
theorem own_el : ∀ p ∈ own_EL, p ∈ consts_1 := by decide
theorem own_safe_null {Z : State} {EL : List (String × Nat)} {vm : Vm} {h : Heap} {x : Addr} (hal : Z.vm.Alike vm) (E : Exa Z h x "java/lang/String") (F : Fld Z h x "java/lang/String" "value" "[B" .null) : Safe Z EL vm h x := fun B => by
  obtain ⟨cl, kc, e1, e2, e3, e4, e5⟩ := E
  obtain ⟨cell, cf, kf, i, f, g1, g2, g3, g4, g5, g6, g7⟩ := F
  have nm : ∀ {n : String} {c : ClassId}, vm.findClass n = some c → c = cl.cls → n = "java/lang/String" := fun {n c} f e => by
    subst e
    rw [hal.findClass] at f
    obtain ⟨k1, q1, q2⟩ := Vm.findClass_spec f
    obtain ⟨k2, q3, q4⟩ := Vm.findClass_spec e2
    cases q1.symm.trans q3
    exact q2.symm.trans q4
  obtain ⟨p, -, u, a, -, q, -, S, rfl | rfl⟩ := B
  · cases (show h[q.sa]? = some q.sC from S.ha).symm.trans g1
    obtain ⟨cS, ⟨⟨-, -, -, ⟨c1, k1, i1, f1, -⟩, -, -, -, v1, -⟩, -⟩, -⟩ := S
    obtain ⟨k3, z3, -⟩ := State.fieldFound?_setVm (s := Z) hal g2
    have z4 := (show (Wst Z vm h).fieldFound? _ _ _ = _ from z3).symm.trans f1
    simp only [Option.some.injEq, Prod.mk.injEq] at z4
    rw [← z4.2.2.2, g7] at v1
    cases v1
  · cases (show h[q.sd]? = some q.SA from S.hd).symm.trans e1
    obtain ⟨cS, -, -, f, -⟩ := S
    exact absurd (nm f rfl) (by decide)
theorem own_ne_oa {Z : State} {a0 : Array Value} {h : Heap} {a r : Addr} {C : String} {n : Nat} {k : ClassId} {ty : FieldType} {z : Int32} {vs : List Value} {d : Value} (w : (Cond.instantiable C n).before a0 Z = true) (E : Exa Z h a C) (A : Arv Z h r k ty z vs d) : @Ne Nat a r := fun e => by
  have e' : a = r := e
  subst e'
  obtain ⟨cl, kc, e1, e2, e3, -, -⟩ := E
  obtain ⟨x, ⟨A1, ⟨-, kA, hkA, comp, hkind⟩, -⟩, -⟩ := A
  obtain ⟨c1, k1, q1, q2, q3, -, -, -⟩ := Cond.instantiable_spec w
  cases e1.symm.trans A1
  cases e2.symm.trans q1
  cases q2.symm.trans hkA
  rw [q3] at hkind
  cases hkind
theorem own_str_ne {Z : State} {h : Heap} {a b ax ay : Addr} {ka kb : ClassId} {n m : Int32} {vs ws : List Value} {d d' : Value} {C : String} (F : Fld Z h a C "value" "[B" (.ref ax)) (G : Fld Z h b C "value" "[B" (.ref ay)) (A : Arv Z h ax ka .byte n vs d) (B : Arv Z h ay kb .byte m ws d') (hn : n.toNatClampNeg ≠ m.toNatClampNeg) : ¬ a = b := fun e => by
  subst e
  obtain ⟨c1, cf, k, i, f, g1, g2, -, -, -, -, g7⟩ := F
  obtain ⟨c2, cf', k', i', f', q1, q2, -, -, -, -, q7⟩ := G
  cases g1.symm.trans q1
  have z := g2.symm.trans q2
  simp only [Option.some.injEq, Prod.mk.injEq] at z
  rw [z.2.2.2, q7] at g7
  cases g7
  obtain ⟨x, A1, -, S1, -⟩ := A
  obtain ⟨y, B1, -, S2, -⟩ := B
  cases A1.1.symm.trans B1.1
  exact hn (S1.symm.trans S2)
theorem own_and3 (f : Int32) : f &&& 3 = 0 ∨ f &&& 3 = 1 ∨ f &&& 3 = 2 ∨ f &&& 3 = 3 := by
  have h := c_mask f 3 2 (by decide) (by decide)
  have h2 : (f &&& 3).toInt = 0 ∨ (f &&& 3).toInt = 1 ∨ (f &&& 3).toInt = 2 ∨ (f &&& 3).toInt = 3 := by
    have : ((2 ^ 2 : Nat) : Int) = 4 := rfl
    rw [this] at h; omega
  rcases h2 with h | h | h | h
  · exact Or.inl (Int32.toInt_inj.mp h)
  · exact Or.inr (Or.inl (Int32.toInt_inj.mp h))
  · exact Or.inr (Or.inr (Or.inl (Int32.toInt_inj.mp h)))
  · exact Or.inr (Or.inr (Or.inr (Int32.toInt_inj.mp h)))
def own_veq (vs ws : List Value) : Int32 := if vs = ws then 1 else 0
theorem own_veq_one {vs ws : List Value} (h : ¬ own_veq vs ws = (0 : Int32)) : own_veq vs ws = 1 := by unfold own_veq at h ⊢; by_cases q : vs = ws <;> simp_all
def own_bs (n u0 u1 u2 : Int32) : List Value := if n = 0 then [] else if n = 1 then [.int (own_by u0)] else if n = 2 then [.int (own_by u0), .int (own_by u1)] else [.int (own_by u0), .int (own_by u1), .int (own_by u2)]
def own_sh (n : Int32) (vs : List Value) : Prop := (n = 0 ∧ vs = []) ∨ (∃ w0 : Int32, n = 1 ∧ vs = [.int w0]) ∨ (∃ w0 w1 : Int32, n = 2 ∧ vs = [.int w0, .int w1]) ∨ (∃ w0 w1 w2 : Int32, n = 3 ∧ vs = [.int w0, .int w1, .int w2])
theorem own_bs_sh {n u0 u1 u2 : Int32} (h : n = 0 ∨ n = 1 ∨ n = 2 ∨ n = 3) : own_sh n (own_bs n u0 u1 u2) := by
  rcases h with rfl | rfl | rfl | rfl
  · exact Or.inl ⟨rfl, rfl⟩
  · exact Or.inr (Or.inl ⟨_, rfl, rfl⟩)
  · exact Or.inr (Or.inr (Or.inl ⟨_, _, rfl, rfl⟩))
  · exact Or.inr (Or.inr (Or.inr (⟨_, _, _, rfl, rfl⟩)))
theorem own_lat_i2c {c : Int32} (h : own_lat c) : c.toUInt32.toUInt16.toUInt32.toInt32 = c := by obtain ⟨k, rfl⟩ := h; revert k; decide +kernel
theorem own_lat_a (x : Int32) : own_lat (x &&& (255 : Int32)) := by
  obtain ⟨h1, h2⟩ := c_and x 255 (by decide)
  have e : (255 : Int32).toInt = 255 := rfl
  rw [e] at h2
  have h3 : x &&& 255 = Int32.ofNat (x &&& 255).toInt.toNat := by
    apply Int32.toInt_inj.mp
    rw [Int32.toInt_ofNat_of_lt (by omega)]; omega
  rw [h3]
  exact ⟨⟨(x &&& 255).toInt.toNat, by omega⟩, rfl⟩
theorem own_ne' {a b : Nat} (h : @Ne Nat a b) : ¬ a = b := h
abbrev oi (x : Int32) : Slot := .val (.int x)
abbrev oj (x : Int64) : Slot := .val (.long x)
abbrev oR (x : Addr) : Slot := .val (.ref x)
abbrev oM0 : MethodName := ⟨"java/lang/String", "<init>", "([C)V"⟩
abbrev oM1 : MethodName := ⟨"java/lang/String", "equals", "(Ljava/lang/Object;)Z"⟩
abbrev oM2 : MethodName := ⟨"jdk/internal/util/Preconditions", "checkIndex", "(IILjava/util/function/BiFunction;)I"⟩
abbrev oM3 : MethodName := ⟨"java/util/Objects", "checkIndex", "(II)I"⟩
abbrev oM4 : MethodName := ⟨"java/util/ArrayList", "elementData", "(I)Ljava/lang/Object;"⟩
abbrev oM5 : MethodName := ⟨"java/util/ArrayList", "get", "(I)Ljava/lang/Object;"⟩
abbrev oM6 : MethodName := ⟨"java/lang/String", "<init>", "([CIILjava/lang/Void;)V"⟩
abbrev oM7 : MethodName := ⟨"java/lang/StringLatin1", "equals", "([B[B)Z"⟩
abbrev oM8 : MethodName := ⟨"java/util/ArrayList", "add", "(Ljava/lang/Object;)Z"⟩
abbrev oM9 : MethodName := ⟨"com/example/scatterkeep/scatterkeep/protocol/AccessPoint$Reply", "getStatus", "()I"⟩
abbrev oM10 : MethodName := ⟨"com/example/scatterkeep/scatterkeep/protocol/AccessPoint$Reply", "getErr", "()Ljava/util/List;"⟩
abbrev oM11 : MethodName := ⟨"com/example/scatterkeep/scatterkeep/protocol/AccessPoint$Reply", "getOut", "()Ljava/util/List;"⟩
abbrev oM12 : MethodName := ⟨"java/util/List", "get", "(I)Ljava/lang/Object;"⟩
abbrev oM13 : MethodName := ⟨"java/lang/StringUTF16", "compress", "([CI[BII)I"⟩
abbrev oM14 : MethodName := ⟨"java/lang/StringUTF16", "compress", "([CII)[B"⟩
abbrev oM15 : MethodName := ⟨"java/lang/StringUTF16", "coderFromArrayLen", "([BI)B"⟩
abbrev oM16 : MethodName := ⟨"java/util/ArrayList", "add", "(Ljava/lang/Object;[Ljava/lang/Object;I)V"⟩
abbrev oM17 : MethodName := ⟨"java/util/List", "size", "()I"⟩
abbrev oM18 : MethodName := ⟨"java/util/ArrayList", "size", "()I"⟩
abbrev oM19 : MethodName := ⟨"com/example/scatterkeep/scatterkeep/protocol/AccessPoint$Reply", "doneWithWarning", "(Ljava/util/List;Ljava/lang/String;)Lcom/example/scatterkeep/scatterkeep/protocol/AccessPoint$Reply;"⟩
abbrev oM20 : MethodName := ⟨"java/util/ImmutableCollections$List12", "size", "()I"⟩
abbrev oM21 : MethodName := ⟨"java/util/ImmutableCollections$List12", "get", "(I)Ljava/lang/Object;"⟩
abbrev oM22 : MethodName := ⟨"java/util/List", "add", "(Ljava/lang/Object;)Z"⟩
abbrev oM23 : MethodName := ⟨"java/lang/String", "valueOf", "(C)Ljava/lang/String;"⟩
abbrev oM24 : MethodName := ⟨"java/util/AbstractCollection", "<init>", "()V"⟩
abbrev oM25 : MethodName := ⟨"java/lang/StringLatin1", "canEncode", "(C)Z"⟩
abbrev oM26 : MethodName := ⟨"java/lang/StringLatin1", "toBytes", "(C)[B"⟩
abbrev oM27 : MethodName := ⟨"java/lang/String", "<init>", "([BB)V"⟩
abbrev oM28 : MethodName := ⟨"java/util/ImmutableCollections$AbstractImmutableCollection", "<init>", "()V"⟩
abbrev oM29 : MethodName := ⟨"java/util/ImmutableCollections$AbstractImmutableList", "<init>", "()V"⟩
abbrev oM30 : MethodName := ⟨"java/util/AbstractList", "<init>", "()V"⟩
abbrev oM31 : MethodName := ⟨"java/util/ArrayList", "<init>", "()V"⟩
abbrev oM32 : MethodName := ⟨"java/lang/Math", "max", "(II)I"⟩
abbrev oM33 : MethodName := ⟨"java/util/ArrayList", "grow", "(I)[Ljava/lang/Object;"⟩
abbrev oM34 : MethodName := ⟨"java/util/ArrayList", "grow", "()[Ljava/lang/Object;"⟩
abbrev oM35 : MethodName := ⟨"java/util/Objects", "requireNonNull", "(Ljava/lang/Object;)Ljava/lang/Object;"⟩
abbrev oM36 : MethodName := ⟨"java/util/ImmutableCollections$List12", "<init>", "(Ljava/lang/Object;)V"⟩
abbrev oM37 : MethodName := ⟨"java/util/List", "of", "(Ljava/lang/Object;)Ljava/util/List;"⟩
abbrev oM38 : MethodName := ⟨"com/example/scatterkeep/scatterkeep/protocol/AccessPoint$Reply", "<init>", "(ILjava/util/List;Ljava/util/List;)V"⟩
abbrev oS0 : String := "java/lang/String"
abbrev oS1 : String := "java/util/ArrayList"
abbrev oS2 : String := "java/lang/Object"
abbrev oS3 : String := "[Ljava/lang/Object;"
abbrev oS4 : String := "COMPACT_STRINGS"
abbrev oS5 : String := "Ljava/lang/Object;"
abbrev oS6 : String := "com/example/scatterkeep/scatterkeep/protocol/AccessPoint$Reply"
abbrev oS7 : String := "java/util/ImmutableCollections"
abbrev oS8 : String := "java/util/AbstractList"
abbrev oS9 : String := "java/util/ImmutableCollections$List12"
abbrev oS10 : String := "DEFAULTCAPACITY_EMPTY_ELEMENTDATA"
abbrev oS11 : String := "java/util/List"
abbrev oS12 : String := "Ljava/util/List;"
abbrev oS13 : String := "java/lang/StringUTF16"
abbrev oS14 : String := "com/example/scatterkeep/scatterkeep/protocol/ReplyDoneWithWarningPinLaw"
abbrev oS15 : String := "java/util/Objects"
abbrev oS16 : String := "java/lang/StringLatin1"
abbrev oS17 : String := "jdk/internal/util/Preconditions"
theorem d9_0 : decode jdk_52_method_21_code 0 = .ok (.iconst 0, 1) := by decide +kernel
theorem d9_1 : decode jdk_52_method_21_code 1 = .ok (.istore 5, 2) := by decide +kernel
theorem d9_3 : decode jdk_52_method_21_code 3 = .ok (.iload 5, 2) := by decide +kernel
theorem d9_5 : decode jdk_52_method_21_code 5 = .ok (.iload 4, 2) := by decide +kernel
theorem d9_7 : decode jdk_52_method_21_code 7 = .ok (.if_icmp .ge 37, 3) := by decide +kernel
theorem d9_10 : decode jdk_52_method_21_code 10 = .ok (.aload_n 0, 1) := by decide +kernel
theorem d9_11 : decode jdk_52_method_21_code 11 = .ok (.iload_n 1, 1) := by decide +kernel
theorem d9_12 : decode jdk_52_method_21_code 12 = .ok (.caload, 1) := by decide +kernel
theorem d9_13 : decode jdk_52_method_21_code 13 = .ok (.istore 6, 2) := by decide +kernel
theorem d9_15 : decode jdk_52_method_21_code 15 = .ok (.iload 6, 2) := by decide +kernel
theorem d9_17 : decode jdk_52_method_21_code 17 = .ok (.sipush 255, 3) := by decide +kernel
theorem d9_20 : decode jdk_52_method_21_code 20 = .ok (.if_icmp .le 6, 3) := by decide +kernel
theorem d9_26 : decode jdk_52_method_21_code 26 = .ok (.aload_n 2, 1) := by decide +kernel
theorem d9_27 : decode jdk_52_method_21_code 27 = .ok (.iload_n 3, 1) := by decide +kernel
theorem d9_28 : decode jdk_52_method_21_code 28 = .ok (.iload 6, 2) := by decide +kernel
theorem d9_30 : decode jdk_52_method_21_code 30 = .ok (.i2b, 1) := by decide +kernel
theorem d9_31 : decode jdk_52_method_21_code 31 = .ok (.bastore, 1) := by decide +kernel
theorem d9_32 : decode jdk_52_method_21_code 32 = .ok (.iinc 1 1, 3) := by decide +kernel
theorem d9_35 : decode jdk_52_method_21_code 35 = .ok (.iinc 3 1, 3) := by decide +kernel
theorem d9_38 : decode jdk_52_method_21_code 38 = .ok (.iinc 5 1, 3) := by decide +kernel
theorem d9_41 : decode jdk_52_method_21_code 41 = .ok (.goto (-38), 3) := by decide +kernel
theorem d9_44 : decode jdk_52_method_21_code 44 = .ok (.iload 4, 2) := by decide +kernel
theorem d9_46 : decode jdk_52_method_21_code 46 = .ok (.ireturn, 1) := by decide +kernel
theorem pn_9 : plainName "java/lang/StringUTF16" = true := by first | (simp [plainName, overriddenIn]; done) | decide +kernel
theorem ef_rcp_1 (m : MethodId) (x0 : Addr) (x1 : Int32) (x2 : Addr) (x3 : Int32) (x4 : Int32) : entryFrame m #[(.ref x0), (.int x1), (.ref x2), (.int x3), (.int x4)] 7 = mkF m 0 #[.val (.ref x0), .val (.int x1), .val (.ref x2), .val (.int x3), .val (.int x4), .unset, .unset] [] := by first | (simp [entryFrame, mkF, argsToLocals, Value.category]; done) | rfl
def Qrcp_1 (Z : State) (ax : Addr) (ka : ClassId) (ay : Addr) (kb : ClassId) (u0 : Int32) (h0 : Heap) (n0 : Nat) (v : Option Value) (h : Heap) (L : List Loc) : Prop := (v = some (.int (1 : Int32))) ∧ (Fr n0 L) ∧ (Keep h0 h [ay]) ∧ (Arv Z h ay kb .byte (1 : Int32) [(.int (own_by u0))] (.int (0 : Int32)))
set_option maxRecDepth 65536 in
set_option maxHeartbeats 40000000 in
theorem rcp_1 (l : Launch) (Z : State) (a0 : Array Value) (hw : ∀ d ∈ tables_1, d.before a0 Z = true) (ws : List Jvm.Cond) (ax : Addr) (ka : ClassId) (ay : Addr) (kb : ClassId) (u0 : Int32) (h0 : Heap) (n0 : Nat) (Z0 : n0 ≤ h0.size) (pr1 : Arv Z h0 ax ka .char (1 : Int32) [(.int u0)] (.int (0 : Int32))) (pr2 : Arv Z h0 ay kb .byte (1 : Int32) [(.int (0 : Int32))] (.int (0 : Int32))) (pr3 : n0 ≤ ay) (pr4 : @Ne Nat ax ay) (hl_u0 : own_lat u0) :
    MetFree l oM13 (head1 (Jvm.Cond.code oM13 jdk_52_method_21_code 7 (some .int) :: ws) ({ frames := 0, cells := 0, slots := 0, locals := 0 } : Room)) (fun a U => a = #[(.ref ax), (.int (0 : Int32)), (.ref ay), (.int (0 : Int32)), (.int (1 : Int32))] ∧ Z.Warmed39 U.vm ∧ U.heap = h0) (fun _ _ _ _ _ => True) (fun _ U o U' => ∃ v L, o = .returned v ∧ Qrcp_1 Z ax ka ay kb u0 h0 n0 v U'.heap L ∧ FrameEnd U o U' L ({ frames := 0, cells := 0, slots := 0, locals := 0 } : Room).cells ({ frames := 0, cells := 0, slots := 0, locals := 0 } : Room).slots) := by
  refine MetFree.of_bodySF (plainFor_of_name pn_9) hisR ?_
  intro p e s m args below meth c s₁ Bd hml0 hP0 hK
  obtain ⟨rfl, hZ, hh⟩ := hP0
  have hx := Bd.exec
  have hby := Bd.bytes
  have hml : c.maxLocals = 7 := hml0
  have hown : s.vm.findClass oS13 = some m.cls := findClass_of_methodNamed Bd.named
  have hnm := (name_of_methodNamed Bd.named Bd.method).1
  have X0 : Stand p l e ({ frames := 0, cells := 0, slots := 0, locals := 0 } : Room) s m #[(.ref ax), (.int (0 : Int32)), (.ref ay), (.int (0 : Int32)), (.int (1 : Int32))] below meth c s₁ [] 0 0 := Stand.of_body Bd
  have e0 : s₁.heap = h0 := by rw [← hh, Bd.state]; rfl
  have N0 := Fr.nil n0
  refine own_fin (st' := s₁.setTop (mkF m 0 #[oR ax, oi 0, oR ay, oi 0, oi 1, .unset, .unset] [])) (fun _ k => castTop (ef_rcp_1 m ax (0 : Int32) ay (0 : Int32) (1 : Int32)) k) (fun P hP => ?_)
  have lt_ax : @LT.lt Nat _ ax h0.size := pr1.lt
  have lt_ay : @LT.lt Nat _ ay h0.size := pr2.lt
  refine ow (oT s₁ m 1 #[oR ax, oi 0, oR ay, oi 0, oi 1, .unset, .unset] [(.int (0 : Int32))]) (fun _ k => XS.iconst X0.here hx rfl (hb hby d9_0) k) ?_
  refine ow (oT s₁ m 3 #[oR ax, oi 0, oR ay, oi 0, oi 1, oi 0, .unset] []) (fun _ k => XS.istore X0.here hx rfl (hb hby d9_1) rfl (l' := #[oR ax, oi 0, oR ay, oi 0, oi 1, oi 0, .unset]) rfl k) ?_
  refine ow (oT s₁ m 5 #[oR ax, oi 0, oR ay, oi 0, oi 1, oi 0, .unset] [(.int (0 : Int32))]) (fun _ k => XS.iload X0.here hx rfl (hb hby d9_3) rfl k) ?_
  refine ow (oT s₁ m 7 #[oR ax, oi 0, oR ay, oi 0, oi 1, oi 0, .unset] [(.int (1 : Int32)), (.int (0 : Int32))]) (fun _ k => XS.iload X0.here hx rfl (hb hby d9_5) rfl k) ?_
  have hc1 : (0 : Int32) < (1 : Int32) := by decide
  refine ow (oT s₁ m 10 #[oR ax, oi 0, oR ay, oi 0, oi 1, oi 0, .unset] []) (fun _ k => XS.icmpNo X0.here hx rfl (hb hby d9_7) rfl (tlt hc1).2.1 k) ?_
  refine ow (oT s₁ m 11 #[oR ax, oi 0, oR ay, oi 0, oi 1, oi 0, .unset] [(.ref ax)]) (fun _ k => XS.aloadN X0.here hx rfl (hb hby d9_10) rfl rfl k) ?_
  refine ow (oT s₁ m 12 #[oR ax, oi 0, oR ay, oi 0, oi 1, oi 0, .unset] [(.int (0 : Int32)), (.ref ax)]) (fun _ k => XS.iloadN X0.here hx rfl (hb hby d9_11) rfl k) ?_
  obtain ⟨cl2, Ar2, -, S2, M2, H2, -⟩ := id pr1
  have hin2 : ¬ ((0 : Int32) < 0 ∨ cl2.slots.size ≤ ((0 : Int32)).toNatClampNeg) := (inb_of S2 ⟨by decide, by decide⟩)
  have hat2 : cl2.slots[((0 : Int32)).toNatClampNeg]? = some (.int u0) := (H2.at hin2 rfl)
  refine ow (oT s₁ m 13 #[oR ax, oi 0, oR ay, oi 0, oi 1, oi 0, .unset] [(.int u0)]) (X0.caload hx (j := (0 : Int32)) (v := (.int u0)) (by rw [e0]; exact Ar2.1) (State.isArrayOf_alike hZ.alike Ar2.2.1) Ar2.2.2 hin2 hat2 (g := (mkF m 12 #[oR ax, oi 0, oR ay, oi 0, oi 1, oi 0, .unset] [(.int (0 : Int32)), (.ref ax)])) rfl rfl (hb hby d9_12)) ?_
  refine ow (oT s₁ m 15 #[oR ax, oi 0, oR ay, oi 0, oi 1, oi 0, oi u0] []) (fun _ k => XS.istore X0.here hx rfl (hb hby d9_13) rfl (l' := #[oR ax, oi 0, oR ay, oi 0, oi 1, oi 0, oi u0]) rfl k) ?_
  refine ow (oT s₁ m 17 #[oR ax, oi 0, oR ay, oi 0, oi 1, oi 0, oi u0] [(.int u0)]) (fun _ k => XS.iload X0.here hx rfl (hb hby d9_15) rfl k) ?_
  refine ow (oT s₁ m 20 #[oR ax, oi 0, oR ay, oi 0, oi 1, oi 0, oi u0] [(.int (255 : Int32)), (.int u0)]) (fun _ k => XS.sipush X0.here hx rfl (hb hby d9_17) k) ?_
  have hc3 : ¬ ((255 : Int32) < u0) := (own_lat_le hl_u0)
  refine ow (oT s₁ m 26 #[oR ax, oi 0, oR ay, oi 0, oi 1, oi 0, oi u0] []) (fun _ k => XS.icmpYes X0.here hx rfl (pc0 := 20) (pc' := 26) rfl (hb hby d9_20) rfl (flt hc3).2.2.2 (by decide) (by decide) k) ?_
  refine ow (oT s₁ m 27 #[oR ax, oi 0, oR ay, oi 0, oi 1, oi 0, oi u0] [(.ref ay)]) (fun _ k => XS.aloadN X0.here hx rfl (hb hby d9_26) rfl rfl k) ?_
  refine ow (oT s₁ m 28 #[oR ax, oi 0, oR ay, oi 0, oi 1, oi 0, oi u0] [(.int (0 : Int32)), (.ref ay)]) (fun _ k => XS.iloadN X0.here hx rfl (hb hby d9_27) rfl k) ?_
  refine ow (oT s₁ m 30 #[oR ax, oi 0, oR ay, oi 0, oi 1, oi 0, oi u0] [(.int u0), (.int (0 : Int32)), (.ref ay)]) (fun _ k => XS.iload X0.here hx rfl (hb hby d9_28) rfl k) ?_
  refine ow (oT s₁ m 31 #[oR ax, oi 0, oR ay, oi 0, oi 1, oi 0, oi u0] [(.int u0.toInt8.toInt32), (.int (0 : Int32)), (.ref ay)]) (fun _ k => XS.i2b X0.here hx rfl (hb hby d9_30) rfl k) ?_
  obtain ⟨cl4, Ar4, qc4, S4, M4, H4, G4⟩ := id pr2
  have hin4 : ¬ ((0 : Int32) < 0 ∨ cl4.slots.size ≤ ((0 : Int32)).toNatClampNeg) := (inb_of S4 ⟨by decide, by decide⟩)
  obtain ⟨T4, h4, X4, e4, W4, st4⟩ := stB X0 hx hZ e0 Ar4 (j := (0 : Int32)) hin4 (g := (mkF m 31 #[oR ax, oi 0, oR ay, oi 0, oi 1, oi 0, oi u0] [(.int u0.toInt8.toInt32), (.int (0 : Int32)), (.ref ay)])) rfl rfl (hb hby d9_31)
  have sz4 : h4.size = h0.size := W4.size
  have N4 := Fr.snoc X4 N0 (by omega)
  have v4 : Arv Z h4 ay kb .byte (1 : Int32) [(.int (nar .byte u0.toInt8.toInt32))] (.int (0 : Int32)) := Arv.set Ar4 qc4 S4 M4 H4 G4 (fits_nar_byte _) W4 0 rfl (Nat.le_of_ble_eq_true rfl)
  refine ow (oT T4 m 32 #[oR ax, oi 0, oR ay, oi 0, oi 1, oi 0, oi u0] []) (st4) ?_
  refine ow (oT T4 m 35 #[oR ax, oi 1, oR ay, oi 0, oi 1, oi 0, oi u0] []) (fun _ k => XS.iinc X4.here hx rfl (hb hby d9_32) rfl (l' := #[oR ax, oi 1, oR ay, oi 0, oi 1, oi 0, oi u0]) (by rw [show ((0 : Int32) + Int32.ofInt 1) = (1 : Int32) by decide]; rfl) k) ?_
  refine ow (oT T4 m 38 #[oR ax, oi 1, oR ay, oi 1, oi 1, oi 0, oi u0] []) (fun _ k => XS.iinc X4.here hx rfl (hb hby d9_35) rfl (l' := #[oR ax, oi 1, oR ay, oi 1, oi 1, oi 0, oi u0]) (by rw [show ((0 : Int32) + Int32.ofInt 1) = (1 : Int32) by decide]; rfl) k) ?_
  refine ow (oT T4 m 41 #[oR ax, oi 1, oR ay, oi 1, oi 1, oi 1, oi u0] []) (fun _ k => XS.iinc X4.here hx rfl (hb hby d9_38) rfl (l' := #[oR ax, oi 1, oR ay, oi 1, oi 1, oi 1, oi u0]) (by rw [show ((0 : Int32) + Int32.ofInt 1) = (1 : Int32) by decide]; rfl) k) ?_
  refine ow (oT T4 m 3 #[oR ax, oi 1, oR ay, oi 1, oi 1, oi 1, oi u0] []) (fun _ k => XS.goto X4.here hx rfl (pc0 := 41) (pc' := 3) rfl (hb hby d9_41) (by decide) (by decide) k) ?_
  refine ow (oT T4 m 5 #[oR ax, oi 1, oR ay, oi 1, oi 1, oi 1, oi u0] [(.int (1 : Int32))]) (fun _ k => XS.iload X4.here hx rfl (hb hby d9_3) rfl k) ?_
  refine ow (oT T4 m 7 #[oR ax, oi 1, oR ay, oi 1, oi 1, oi 1, oi u0] [(.int (1 : Int32)), (.int (1 : Int32))]) (fun _ k => XS.iload X4.here hx rfl (hb hby d9_5) rfl k) ?_
  have hc5 : ¬ ((1 : Int32) < (1 : Int32)) := by decide
  refine ow (oT T4 m 44 #[oR ax, oi 1, oR ay, oi 1, oi 1, oi 1, oi u0] []) (fun _ k => XS.icmpYes X4.here hx rfl (pc0 := 7) (pc' := 44) rfl (hb hby d9_7) rfl (flt hc5).2.1 (by decide) (by decide) k) ?_
  refine ow (oT T4 m 46 #[oR ax, oi 1, oR ay, oi 1, oi 1, oi 1, oi u0] [(.int (1 : Int32))]) (fun _ k => XS.iload X4.here hx rfl (hb hby d9_44) rfl k) ?_
  obtain ⟨fs, hr, hrun, hended, hW, hsame⟩ := X4.leave (v := some (.int (1 : Int32))) (fun h => by rw [Bd.returns] at h; cases h)
  refine ⟨_, _, ?_, hP _ _ hrun hended ⟨_, _, rfl, ?_, ⟨_, rfl⟩, hW, hsame.mono (by decide) (by decide)⟩⟩
  · exact retOut X4 hx Bd.returns rfl (Or.inl ⟨rfl, Or.inl rfl, _, rfl⟩) (hb hby d9_46) hr
  ·
   show Qrcp_1 Z ax ka ay kb u0 h0 n0 _ T4.heap _
   rw [e4]
   exact ⟨rfl, N4, ((Keep.refl h0 [ay]).wr W4 (Or.inl (List.mem_of_getElem? (i := 0) rfl))), v4⟩
theorem pd_0 : parseMethodDescriptor "([CI[BII)I" = some ⟨[(.array .char), .int, (.array .byte), .int, .int], some .int⟩ := by decide +kernel
theorem d8_0 : decode jdk_52_method_16_code 0 = .ok (.iload_n 2, 1) := by decide +kernel
theorem d8_1 : decode jdk_52_method_16_code 1 = .ok (.newarray .byte, 2) := by decide +kernel
theorem d8_3 : decode jdk_52_method_16_code 3 = .ok (.astore_n 3, 1) := by decide +kernel
theorem d8_4 : decode jdk_52_method_16_code 4 = .ok (.aload_n 0, 1) := by decide +kernel
theorem d8_5 : decode jdk_52_method_16_code 5 = .ok (.iload_n 1, 1) := by decide +kernel
theorem d8_6 : decode jdk_52_method_16_code 6 = .ok (.aload_n 3, 1) := by decide +kernel
theorem d8_7 : decode jdk_52_method_16_code 7 = .ok (.iconst 0, 1) := by decide +kernel
theorem d8_8 : decode jdk_52_method_16_code 8 = .ok (.iload_n 2, 1) := by decide +kernel
theorem d8_9 : decode jdk_52_method_16_code 9 = .ok (.invokestatic 115, 3) := by decide +kernel
theorem d8_12 : decode jdk_52_method_16_code 12 = .ok (.istore 4, 2) := by decide +kernel
theorem d8_14 : decode jdk_52_method_16_code 14 = .ok (.iload 4, 2) := by decide +kernel
theorem d8_16 : decode jdk_52_method_16_code 16 = .ok (.iload_n 2, 1) := by decide +kernel
theorem d8_17 : decode jdk_52_method_16_code 17 = .ok (.if_icmp .eq 40, 3) := by decide +kernel
theorem d8_57 : decode jdk_52_method_16_code 57 = .ok (.aload_n 3, 1) := by decide +kernel
theorem d8_58 : decode jdk_52_method_16_code 58 = .ok (.areturn, 1) := by decide +kernel
theorem pn_8 : plainName "java/lang/StringUTF16" = true := by first | (simp [plainName, overriddenIn]; done) | decide +kernel
theorem ef_rcq_1 (m : MethodId) (x0 : Addr) (x1 : Int32) (x2 : Int32) : entryFrame m #[(.ref x0), (.int x1), (.int x2)] 6 = mkF m 0 #[.val (.ref x0), .val (.int x1), .val (.int x2), .unset, .unset, .unset] [] := by first | (simp [entryFrame, mkF, argsToLocals, Value.category]; done) | rfl
def Qrcq_1 (Z : State) (ax : Addr) (ka : ClassId) (u0 : Int32) (h0 : Heap) (n0 : Nat) (v : Option Value) (h : Heap) (L : List Loc) : Prop := ∃ (r : Addr) (kr : ClassId), (v = some (.ref r)) ∧ (Fr n0 L) ∧ (Keep h0 h []) ∧ (Arv Z h r kr .byte (1 : Int32) [(.int (own_by u0))] (.int (0 : Int32))) ∧ (h0.size ≤ r)
set_option maxRecDepth 65536 in
set_option maxHeartbeats 40000000 in
theorem rcq_1 (l : Launch) (Z : State) (a0 : Array Value) (hw : ∀ d ∈ tables_1, d.before a0 Z = true) (ws : List Jvm.Cond) (ax : Addr) (ka : ClassId) (u0 : Int32) (h0 : Heap) (n0 : Nat) (Z0 : n0 ≤ h0.size) (pr1 : Arv Z h0 ax ka .char (1 : Int32) [(.int u0)] (.int (0 : Int32))) (hl_u0 : own_lat u0) :
    MetFree l oM14 (head1 (Jvm.Cond.code oM14 jdk_52_method_16_code 6 (some (.array .byte)) :: ws) ({ frames := 1, cells := 1, slots := 1, locals := 18 } : Room)) (fun a U => a = #[(.ref ax), (.int (0 : Int32)), (.int (1 : Int32))] ∧ Z.Warmed39 U.vm ∧ U.heap = h0) (fun _ _ _ _ _ => True) (fun _ U o U' => ∃ v L, o = .returned v ∧ Qrcq_1 Z ax ka u0 h0 n0 v U'.heap L ∧ FrameEnd U o U' L ({ frames := 1, cells := 1, slots := 1, locals := 18 } : Room).cells ({ frames := 1, cells := 1, slots := 1, locals := 18 } : Room).slots) := by
  refine MetFree.of_bodySF (plainFor_of_name pn_8) hisR ?_
  intro p e s m args below meth c s₁ Bd hml0 hP0 hK
  obtain ⟨rfl, hZ, hh⟩ := hP0
  have hx := Bd.exec
  have hby := Bd.bytes
  have hml : c.maxLocals = 6 := hml0
  have hown : s.vm.findClass oS13 = some m.cls := findClass_of_methodNamed Bd.named
  have hnm := (name_of_methodNamed Bd.named Bd.method).1
  have X0 : Stand p l e ({ frames := 1, cells := 1, slots := 1, locals := 18 } : Room) s m #[(.ref ax), (.int (0 : Int32)), (.int (1 : Int32))] below meth c s₁ [] 0 0 := Stand.of_body Bd
  have e0 : s₁.heap = h0 := by rw [← hh, Bd.state]; rfl
  have N0 := Fr.nil n0
  refine own_fin (st' := s₁.setTop (mkF m 0 #[oR ax, oi 0, oi 1, .unset, .unset, .unset] [])) (fun _ k => castTop (ef_rcq_1 m ax (0 : Int32) (1 : Int32)) k) (fun P hP => ?_)
  have lt_ax : @LT.lt Nat _ ax h0.size := pr1.lt
  refine ow (oT s₁ m 1 #[oR ax, oi 0, oi 1, .unset, .unset, .unset] [(.int (1 : Int32))]) (fun _ k => XS.iloadN X0.here hx rfl (hb hby d8_0) rfl k) ?_
  obtain ⟨T1, h1, k1, X1, e1, E1, A1, st1⟩ := newP X0 hx hZ (own_hw hw 14) e0 (g := (mkF m 1 #[oR ax, oi 0, oi 1, .unset, .unset, .unset] [(.int (1 : Int32))])) rfl (hb hby d8_1) rfl (by decide) (cap := 1) (by decide) (by decide) (by decide) (by decide)
  obtain ⟨b1, g1⟩ : ∃ z, z = h0.size := ⟨_, rfl⟩
  rw [← g1] at A1 st1
  have sz1 : h0.size ≤ h1.size := E1.1
  have lt1 : @LT.lt Nat _ b1 h1.size := A1.lt
  have v1 : Arv Z h1 b1 k1 .byte (1 : Int32) [(.int (0 : Int32))] (.int (0 : Int32)) := (Arv.new A1 (by decide)).pad (pad_rep [] (.int (0 : Int32)) 1)
  refine ow (oT T1 m 3 #[oR ax, oi 0, oi 1, .unset, .unset, .unset] [(.ref b1)]) (st1) ?_
  refine ow (oT T1 m 4 #[oR ax, oi 0, oi 1, oR b1, .unset, .unset] []) (fun _ k => XS.astoreN X1.here hx rfl (hb hby d8_3) rfl rfl (l' := #[oR ax, oi 0, oi 1, oR b1, .unset, .unset]) rfl k) ?_
  refine ow (oT T1 m 5 #[oR ax, oi 0, oi 1, oR b1, .unset, .unset] [(.ref ax)]) (fun _ k => XS.aloadN X1.here hx rfl (hb hby d8_4) rfl rfl k) ?_
  refine ow (oT T1 m 6 #[oR ax, oi 0, oi 1, oR b1, .unset, .unset] [(.int (0 : Int32)), (.ref ax)]) (fun _ k => XS.iloadN X1.here hx rfl (hb hby d8_5) rfl k) ?_
  refine ow (oT T1 m 7 #[oR ax, oi 0, oi 1, oR b1, .unset, .unset] [(.ref b1), (.int (0 : Int32)), (.ref ax)]) (fun _ k => XS.aloadN X1.here hx rfl (hb hby d8_6) rfl rfl k) ?_
  refine ow (oT T1 m 8 #[oR ax, oi 0, oi 1, oR b1, .unset, .unset] [(.int (0 : Int32)), (.ref b1), (.int (0 : Int32)), (.ref ax)]) (fun _ k => XS.iconst X1.here hx rfl (hb hby d8_7) k) ?_
  refine ow (oT T1 m 9 #[oR ax, oi 0, oi 1, oR b1, .unset, .unset] [(.int (1 : Int32)), (.int (0 : Int32)), (.ref b1), (.int (0 : Int32)), (.ref ax)]) (fun _ k => XS.iloadN X1.here hx rfl (hb hby d8_8) rfl k) ?_
  have c3 : Arv Z h1 ax ka .char (1 : Int32) [(.int u0)] (.int (0 : Int32)) := (pr1.ext E1)
  obtain ⟨_, _, ⟨T2, LC2, kC2, nC2⟩, -, X2, ⟨Lc2, hQ2, lq2, yq2, zq2⟩, st2⟩ := Jvm.LawKit.callS X1 hx (y := oM13) hown (mvT hZ (own_hw hw 38)) (mvT hZ (own_hw hw 39)) (mvT hZ (own_hw hw 36)) (mvT hZ (own_hw hw 40)) (by decide) (backOf (W := 0) (rcp_1 l Z a0 hw [] ax ka b1 k1 u0 h1 n0 (by omega) c3 v1 (by omega) (own_ne (by omega)) hl_u0) hZ (own_hw hw 40) (own_hw hw 36) (by decide) (by decide)) (g := (mkF m 9 #[oR ax, oi 0, oi 1, oR b1, .unset, .unset] [(.int (1 : Int32)), (.int (0 : Int32)), (.ref b1), (.int (0 : Int32)), (.ref ax)])) rfl hml.symm (argsL := [(.ref ax), (.int (0 : Int32)), (.ref b1), (.int (0 : Int32)), (.int (1 : Int32))]) (rest := []) (lenOf pd_0 rfl) rfl (Nat.le_of_eq rfl) (hb hby d8_9) (fun _ _ => ⟨rfl, e1, (by decide : 1 + 0 ≤ _), (by decide : 1 + 0 ≤ _)⟩)
  dsimp only [Pt.U, Pt.locs, Pt.cells, Pt.slots] at X2 lq2 yq2 zq2 st2 hQ2
  subst lq2 yq2 zq2
  obtain ⟨h2, e2⟩ : ∃ z, T2.heap = z := ⟨_, rfl⟩
  rw [e2] at hQ2
  obtain ⟨rfl, Nq2, K2, g2_0⟩ := hQ2
  have sz2 : h1.size ≤ h2.size := K2.1
  have N2 := Fr.app N0 Nq2
  have lt2_1 : @LT.lt Nat _ b1 h2.size := g2_0.lt
  refine ow (oT T2 m 12 #[oR ax, oi 0, oi 1, oR b1, .unset, .unset] [(.int (1 : Int32))]) (fun t k => st2 t k) ?_
  refine ow (oT T2 m 14 #[oR ax, oi 0, oi 1, oR b1, oi 1, .unset] []) (fun _ k => XS.istore X2.here hx rfl (hb hby d8_12) rfl (l' := #[oR ax, oi 0, oi 1, oR b1, oi 1, .unset]) rfl k) ?_
  refine ow (oT T2 m 16 #[oR ax, oi 0, oi 1, oR b1, oi 1, .unset] [(.int (1 : Int32))]) (fun _ k => XS.iload X2.here hx rfl (hb hby d8_14) rfl k) ?_
  refine ow (oT T2 m 17 #[oR ax, oi 0, oi 1, oR b1, oi 1, .unset] [(.int (1 : Int32)), (.int (1 : Int32))]) (fun _ k => XS.iloadN X2.here hx rfl (hb hby d8_16) rfl k) ?_
  have hc4 : (1 : Int32) = (1 : Int32) := by decide
  refine ow (oT T2 m 57 #[oR ax, oi 0, oi 1, oR b1, oi 1, .unset] []) (fun _ k => XS.icmpYes X2.here hx rfl (pc0 := 17) (pc' := 57) rfl (hb hby d8_17) rfl (teq hc4).1 (by decide) (by decide) k) ?_
  refine ow (oT T2 m 58 #[oR ax, oi 0, oi 1, oR b1, oi 1, .unset] [(.ref b1)]) (fun _ k => XS.aloadN X2.here hx rfl (hb hby d8_57) rfl rfl k) ?_
  obtain ⟨fs, hr, hrun, hended, hW, hsame⟩ := X2.leave (v := some (.ref b1)) (fun h => by rw [Bd.returns] at h; cases h)
  refine ⟨_, _, ?_, hP _ _ hrun hended ⟨_, _, rfl, ?_, ⟨_, rfl⟩, hW, hsame.mono (by decide) (by decide)⟩⟩
  · exact retOut X2 hx Bd.returns rfl (Or.inr (Or.inr (Or.inr (Or.inr ⟨rfl, rfl, rfl⟩)))) (hb hby d8_58) hr
  ·
   show Qrcq_1 Z ax ka u0 h0 n0 _ T2.heap _
   rw [e2]
   exact ⟨b1, k1, rfl, N2, (((Keep.refl h0 []).ext E1).trans K2 (allS (P := fun x => x ∈ [] ∨ h0.size ≤ x) (Or.inr (by omega)) all0)), g2_0, (by omega)⟩
theorem d10_0 : decode jdk_52_method_15_code 0 = .ok (.iload_n 1, 1) := by decide +kernel
theorem d10_1 : decode jdk_52_method_15_code 1 = .ok (.aload_n 0, 1) := by decide +kernel
theorem d10_2 : decode jdk_52_method_15_code 2 = .ok (.arraylength, 1) := by decide +kernel
theorem d10_3 : decode jdk_52_method_15_code 3 = .ok (.isub, 1) := by decide +kernel
theorem d10_4 : decode jdk_52_method_15_code 4 = .ok (.bipush 31, 2) := by decide +kernel
theorem d10_6 : decode jdk_52_method_15_code 6 = .ok (.iushr, 1) := by decide +kernel
theorem d10_7 : decode jdk_52_method_15_code 7 = .ok (.i2b, 1) := by decide +kernel
theorem d10_8 : decode jdk_52_method_15_code 8 = .ok (.ireturn, 1) := by decide +kernel
theorem pn_10 : plainName "java/lang/StringUTF16" = true := by first | (simp [plainName, overriddenIn]; done) | decide +kernel
theorem ef_rcd_1 (m : MethodId) (x0 : Addr) (x1 : Int32) : entryFrame m #[(.ref x0), (.int x1)] 2 = mkF m 0 #[.val (.ref x0), .val (.int x1)] [] := by first | (simp [entryFrame, mkF, argsToLocals, Value.category]; done) | rfl
def Qrcd_1 (Z : State) (ax : Addr) (ka : ClassId) (vs : List Value) (h0 : Heap) (n0 : Nat) (v : Option Value) (h : Heap) (L : List Loc) : Prop := (v = some (.int (0 : Int32))) ∧ (Fr n0 L) ∧ (h = h0)
set_option maxRecDepth 65536 in
set_option maxHeartbeats 40000000 in
theorem rcd_1 (l : Launch) (Z : State) (a0 : Array Value) (hw : ∀ d ∈ tables_1, d.before a0 Z = true) (ws : List Jvm.Cond) (ax : Addr) (ka : ClassId) (vs : List Value) (h0 : Heap) (n0 : Nat) (Z0 : n0 ≤ h0.size) (pr1 : Arv Z h0 ax ka .byte (1 : Int32) vs (.int (0 : Int32))) :
    MetFree l oM15 (head1 (Jvm.Cond.code oM15 jdk_52_method_15_code 2 (some .byte) :: ws) ({ frames := 0, cells := 0, slots := 0, locals := 0 } : Room)) (fun a U => a = #[(.ref ax), (.int (1 : Int32))] ∧ Z.Warmed39 U.vm ∧ U.heap = h0) (fun _ _ _ _ _ => True) (fun _ U o U' => ∃ v L, o = .returned v ∧ Qrcd_1 Z ax ka vs h0 n0 v U'.heap L ∧ FrameEnd U o U' L ({ frames := 0, cells := 0, slots := 0, locals := 0 } : Room).cells ({ frames := 0, cells := 0, slots := 0, locals := 0 } : Room).slots) := by
  refine MetFree.of_bodySF (plainFor_of_name pn_10) hisR ?_
  intro p e s m args below meth c s₁ Bd hml0 hP0 hK
  obtain ⟨rfl, hZ, hh⟩ := hP0
  have hx := Bd.exec
  have hby := Bd.bytes
  have hml : c.maxLocals = 2 := hml0
  have hown : s.vm.findClass oS13 = some m.cls := findClass_of_methodNamed Bd.named
  have hnm := (name_of_methodNamed Bd.named Bd.method).1
  have X0 : Stand p l e ({ frames := 0, cells := 0, slots := 0, locals := 0 } : Room) s m #[(.ref ax), (.int (1 : Int32))] below meth c s₁ [] 0 0 := Stand.of_body Bd
  have e0 : s₁.heap = h0 := by rw [← hh, Bd.state]; rfl
  have N0 := Fr.nil n0
  refine own_fin (st' := s₁.setTop (mkF m 0 #[oR ax, oi 1] [])) (fun _ k => castTop (ef_rcd_1 m ax (1 : Int32)) k) (fun P hP => ?_)
  have lt_ax : @LT.lt Nat _ ax h0.size := pr1.lt
  refine ow (oT s₁ m 1 #[oR ax, oi 1] [(.int (1 : Int32))]) (fun _ k => XS.iloadN X0.here hx rfl (hb hby d10_0) rfl k) ?_
  refine ow (oT s₁ m 2 #[oR ax, oi 1] [(.ref ax), (.int (1 : Int32))]) (fun _ k => XS.aloadN X0.here hx rfl (hb hby d10_1) rfl rfl k) ?_
  obtain ⟨cl1, Ar1, -, S1, M1, -, -⟩ := id pr1
  refine ow (oT s₁ m 3 #[oR ax, oi 1] [(.int (1 : Int32)), (.int (1 : Int32))]) (fun t k => X0.arraylength hx (by rw [e0]; exact Ar1.1) (State.isArrayOf_alike hZ.alike Ar1.2.1) (g := (mkF m 2 #[oR ax, oi 1] [(.ref ax), (.int (1 : Int32))])) rfl rfl (hb hby d10_2) t (by rw [len_of S1 M1]; exact k)) ?_
  refine ow (oT s₁ m 4 #[oR ax, oi 1] [(.int (0 : Int32))]) (fun _ k => XS.isub X0.here hx rfl (hb hby d10_3) rfl (by rw [show ((1 : Int32) - (1 : Int32)) = (0 : Int32) by decide]; exact k)) ?_
  refine ow (oT s₁ m 6 #[oR ax, oi 1] [(.int (31 : Int32)), (.int (0 : Int32))]) (fun _ k => XS.bipush X0.here hx rfl (hb hby d10_4) k) ?_
  refine ow (oT s₁ m 7 #[oR ax, oi 1] [(.int (((0 : Int32).toUInt32 >>> ((31 : Int32) &&& 31).toUInt32).toInt32))]) (fun _ k => XS.iushr X0.here hx rfl (hb hby d10_6) rfl k) ?_
  refine ow (oT s₁ m 8 #[oR ax, oi 1] [(.int (((0 : Int32).toUInt32 >>> ((31 : Int32) &&& 31).toUInt32).toInt32).toInt8.toInt32)]) (fun _ k => XS.i2b X0.here hx rfl (hb hby d10_7) rfl k) ?_
  obtain ⟨fs, hr, hrun, hended, hW, hsame⟩ := X0.leave (v := some (.int (nar .byte (((0 : Int32).toUInt32 >>> ((31 : Int32) &&& 31).toUInt32).toInt32).toInt8.toInt32))) (fun h => by rw [Bd.returns] at h; cases h)
  refine ⟨_, _, ?_, hP _ _ hrun hended ⟨_, _, rfl, ?_, ⟨_, rfl⟩, hW, hsame.mono (by decide) (by decide)⟩⟩
  · exact retN X0 hx (t := .byte) Bd.returns (by simp) (hb hby d10_8) hr
  ·
   show Qrcd_1 Z ax ka vs h0 n0 _ s₁.heap _
   rw [e0]
   exact ⟨(congrArg (fun z => some (Value.int z)) (by decide +kernel)), N0, rfl⟩
theorem pd_1 : parseMethodDescriptor "([CII)[B" = some ⟨[(.array .char), .int, .int], some (.array .byte)⟩ := by decide +kernel
theorem pd_2 : parseMethodDescriptor "([BI)B" = some ⟨[(.array .byte), .int], some .byte⟩ := by decide +kernel
theorem d7_0 : decode jdk_42_method_149_code 0 = .ok (.aload_n 0, 1) := by decide +kernel
theorem d7_1 : decode jdk_42_method_149_code 1 = .ok (.invokespecial 1, 3) := by decide +kernel
theorem d7_4 : decode jdk_42_method_149_code 4 = .ok (.iload_n 3, 1) := by decide +kernel
theorem d7_5 : decode jdk_42_method_149_code 5 = .ok (.ifCond .ne 22, 3) := by decide +kernel
theorem d7_27 : decode jdk_42_method_149_code 27 = .ok (.getstatic 38, 3) := by decide +kernel
theorem d7_30 : decode jdk_42_method_149_code 30 = .ok (.ifCond .eq 28, 3) := by decide +kernel
theorem d7_33 : decode jdk_42_method_149_code 33 = .ok (.aload_n 1, 1) := by decide +kernel
theorem d7_34 : decode jdk_42_method_149_code 34 = .ok (.iload_n 2, 1) := by decide +kernel
theorem d7_35 : decode jdk_42_method_149_code 35 = .ok (.iload_n 3, 1) := by decide +kernel
theorem d7_36 : decode jdk_42_method_149_code 36 = .ok (.invokestatic 177, 3) := by decide +kernel
theorem d7_39 : decode jdk_42_method_149_code 39 = .ok (.astore 5, 2) := by decide +kernel
theorem d7_41 : decode jdk_42_method_149_code 41 = .ok (.aload_n 0, 1) := by decide +kernel
theorem d7_42 : decode jdk_42_method_149_code 42 = .ok (.aload 5, 2) := by decide +kernel
theorem d7_44 : decode jdk_42_method_149_code 44 = .ok (.iload_n 3, 1) := by decide +kernel
theorem d7_45 : decode jdk_42_method_149_code 45 = .ok (.invokestatic 47, 3) := by decide +kernel
theorem d7_48 : decode jdk_42_method_149_code 48 = .ok (.putfield 15, 3) := by decide +kernel
theorem d7_51 : decode jdk_42_method_149_code 51 = .ok (.aload_n 0, 1) := by decide +kernel
theorem d7_52 : decode jdk_42_method_149_code 52 = .ok (.aload 5, 2) := by decide +kernel
theorem d7_54 : decode jdk_42_method_149_code 54 = .ok (.putfield 9, 3) := by decide +kernel
theorem d7_57 : decode jdk_42_method_149_code 57 = .ok (.return_, 1) := by decide +kernel
theorem pn_7 : plainName "java/lang/String" = true := by first | (simp [plainName, overriddenIn]; done) | decide +kernel
theorem ef_rsi_1 (m : MethodId) (x0 : Addr) (x1 : Addr) (x2 : Int32) (x3 : Int32) : entryFrame m #[(.ref x0), (.ref x1), (.int x2), (.int x3), .null] 6 = mkF m 0 #[.val (.ref x0), .val (.ref x1), .val (.int x2), .val (.int x3), .val .null, .unset] [] := by first | (simp [entryFrame, mkF, argsToLocals, Value.category]; done) | rfl
def Qrsi_1 (Z : State) (a1 : Addr) (ax : Addr) (ka : ClassId) (zc : Int32) (u0 : Int32) (h0 : Heap) (n0 : Nat) (v : Option Value) (h : Heap) (L : List Loc) : Prop := ∃ (r : Addr) (kr : ClassId), (v = none) ∧ (Fr n0 L) ∧ (Keep h0 h [a1]) ∧ (Exa Z h a1 "java/lang/String") ∧ (Fld Z h a1 "java/lang/String" "value" "[B" (.ref r)) ∧ (Fld Z h a1 "java/lang/String" "coder" "B" (.int (0 : Int32))) ∧ (Arv Z h r kr .byte (1 : Int32) [(.int (own_by u0))] (.int (0 : Int32))) ∧ (h0.size ≤ r)
set_option maxRecDepth 65536 in
set_option maxHeartbeats 40000000 in
theorem rsi_1 (l : Launch) (Z : State) (a0 : Array Value) (hw : ∀ d ∈ tables_1, d.before a0 Z = true) (ws : List Jvm.Cond) (a1 : Addr) (ax : Addr) (ka : ClassId) (zc : Int32) (u0 : Int32) (h0 : Heap) (n0 : Nat) (Z0 : n0 ≤ h0.size) (pr1 : Exa Z h0 a1 oS0) (pr2 : Fld Z h0 a1 oS0 "value" "[B" .null) (pr3 : Fld Z h0 a1 oS0 "coder" "B" (.int (0 : Int32))) (pr4 : Arv Z h0 ax ka .char (1 : Int32) [(.int u0)] (.int (0 : Int32))) (pr5 : Sta Z h0 oS0 oS4 "Z" (.int zc)) (hzc : ¬ zc = (0 : Int32)) (hl_u0 : own_lat u0) (pr6 : n0 ≤ a1) (pr7 : @Ne Nat a1 ax) :
    MetFree l oM6 (head1 (Jvm.Cond.code oM6 jdk_42_method_149_code 6 none :: ws) ({ frames := 2, cells := 1, slots := 1, locals := 35 } : Room)) (fun a U => a = #[(.ref a1), (.ref ax), (.int (0 : Int32)), (.int (1 : Int32)), .null] ∧ Z.Warmed39 U.vm ∧ U.heap = h0) (fun _ _ _ _ _ => True) (fun _ U o U' => ∃ v L, o = .returned v ∧ Qrsi_1 Z a1 ax ka zc u0 h0 n0 v U'.heap L ∧ FrameEnd U o U' L ({ frames := 2, cells := 1, slots := 1, locals := 35 } : Room).cells ({ frames := 2, cells := 1, slots := 1, locals := 35 } : Room).slots) := by
  refine MetFree.of_bodySF (plainFor_of_name pn_7) hisR ?_
  intro p e s m args below meth c s₁ Bd hml0 hP0 hK
  obtain ⟨rfl, hZ, hh⟩ := hP0
  have hx := Bd.exec
  have hby := Bd.bytes
  have hml : c.maxLocals = 6 := hml0
  have hown : s.vm.findClass oS0 = some m.cls := findClass_of_methodNamed Bd.named
  have hnm := (name_of_methodNamed Bd.named Bd.method).1
  have X0 : Stand p l e ({ frames := 2, cells := 1, slots := 1, locals := 35 } : Room) s m #[(.ref a1), (.ref ax), (.int (0 : Int32)), (.int (1 : Int32)), .null] below meth c s₁ [] 0 0 := Stand.of_body Bd
  have e0 : s₁.heap = h0 := by rw [← hh, Bd.state]; rfl
  have N0 := Fr.nil n0
  refine own_fin (st' := s₁.setTop (mkF m 0 #[oR a1, oR ax, oi 0, oi 1, .val .null, .unset] [])) (fun _ k => castTop (ef_rsi_1 m a1 ax (0 : Int32) (1 : Int32)) k) (fun P hP => ?_)
  have lt_a1 : @LT.lt Nat _ a1 h0.size := pr1.lt
  have lt_ax : @LT.lt Nat _ ax h0.size := pr4.lt
  refine ow (oT s₁ m 1 #[oR a1, oR ax, oi 0, oi 1, .val .null, .unset] [(.ref a1)]) (fun _ k => XS.aloadN X0.here hx rfl (hb hby d7_0) rfl rfl k) ?_
  obtain ⟨T1, X1, e1, st1⟩ := initO X0 hx hZ hown (own_hw hw 19) (own_hw hw 20) (own_hw hw 21) e0 (g := (mkF m 1 #[oR a1, oR ax, oi 0, oi 1, .val .null, .unset] [(.ref a1)])) rfl (by rw [hml]; rfl) rfl (hb hby d7_1) (by decide) (W := 0) (by show 2 * 0 + _ ≤ _; exact Nat.le_of_eq rfl) (by decide)
  refine ow (oT T1 m 4 #[oR a1, oR ax, oi 0, oi 1, .val .null, .unset] []) (st1) ?_
  refine ow (oT T1 m 5 #[oR a1, oR ax, oi 0, oi 1, .val .null, .unset] [(.int (1 : Int32))]) (fun _ k => XS.iloadN X1.here hx rfl (hb hby d7_4) rfl k) ?_
  have hc2 : ¬ ((1 : Int32) = (0 : Int32)) := by decide
  refine ow (oT T1 m 27 #[oR a1, oR ax, oi 0, oi 1, .val .null, .unset] []) (fun _ k => XS.ifYes X1.here hx rfl (pc0 := 5) (pc' := 27) rfl (hb hby d7_5) rfl ((if0 _ _).trans (feq hc2).2) (by decide) (by decide) k) ?_
  obtain ⟨T3, X3, e3, st3⟩ := getS2 X1 hx hZ hown (host := "") (Or.inl (own_hw hw 4)) Via.refl e1 pr5 (g := (mkF m 27 #[oR a1, oR ax, oi 0, oi 1, .val .null, .unset] [])) rfl (hb hby d7_27)
  refine ow (oT T3 m 30 #[oR a1, oR ax, oi 0, oi 1, .val .null, .unset] [(.int zc)]) (st3) ?_
  have hc4 : ¬ (zc = (0 : Int32)) := hzc
  refine ow (oT T3 m 33 #[oR a1, oR ax, oi 0, oi 1, .val .null, .unset] []) (fun _ k => XS.ifNo X3.here hx rfl (hb hby d7_30) rfl ((if0 _ _).trans (feq hc4).1) k) ?_
  refine ow (oT T3 m 34 #[oR a1, oR ax, oi 0, oi 1, .val .null, .unset] [(.ref ax)]) (fun _ k => XS.aloadN X3.here hx rfl (hb hby d7_33) rfl rfl k) ?_
  refine ow (oT T3 m 35 #[oR a1, oR ax, oi 0, oi 1, .val .null, .unset] [(.int (0 : Int32)), (.ref ax)]) (fun _ k => XS.iloadN X3.here hx rfl (hb hby d7_34) rfl k) ?_
  refine ow (oT T3 m 36 #[oR a1, oR ax, oi 0, oi 1, .val .null, .unset] [(.int (1 : Int32)), (.int (0 : Int32)), (.ref ax)]) (fun _ k => XS.iloadN X3.here hx rfl (hb hby d7_35) rfl k) ?_
  obtain ⟨_, _, ⟨T5, LC5, kC5, nC5⟩, -, X5, ⟨Lc5, hQ5, lq5, yq5, zq5⟩, st5⟩ := Jvm.LawKit.callS X3 hx (y := oM14) hown (mvT hZ (own_hw hw 34)) (mvT hZ (own_hw hw 35)) (mvT hZ (own_hw hw 36)) (mvT hZ (own_hw hw 37)) (by decide) (backOf (W := 0) (rcq_1 l Z a0 hw [] ax ka u0 h0 n0 (by omega) pr4 hl_u0) hZ (own_hw hw 37) (own_hw hw 36) (by decide) (by decide)) (g := (mkF m 36 #[oR a1, oR ax, oi 0, oi 1, .val .null, .unset] [(.int (1 : Int32)), (.int (0 : Int32)), (.ref ax)])) rfl hml.symm (argsL := [(.ref ax), (.int (0 : Int32)), (.int (1 : Int32))]) (rest := []) (lenOf pd_1 rfl) rfl (Nat.le_of_eq rfl) (hb hby d7_36) (fun _ _ => ⟨rfl, e3, (by decide : 0 + 1 ≤ _), (by decide : 0 + 1 ≤ _)⟩)
  dsimp only [Pt.U, Pt.locs, Pt.cells, Pt.slots] at X5 lq5 yq5 zq5 st5 hQ5
  subst lq5 yq5 zq5
  obtain ⟨h5, e5⟩ : ∃ z, T5.heap = z := ⟨_, rfl⟩
  rw [e5] at hQ5
  obtain ⟨r_5, kr_5, rfl, Nq5, K5, g5_0, g5_1⟩ := hQ5
  have sz5 : h0.size ≤ h5.size := K5.1
  have N5 := Fr.app N0 Nq5
  have lt5_1 : @LT.lt Nat _ r_5 h5.size := g5_0.lt
  refine ow (oT T5 m 39 #[oR a1, oR ax, oi 0, oi 1, .val .null, .unset] [(.ref r_5)]) (fun t k => st5 t k) ?_
  refine ow (oT T5 m 41 #[oR a1, oR ax, oi 0, oi 1, .val .null, oR r_5] []) (fun _ k => XS.astore X5.here hx rfl (hb hby d7_39) rfl rfl (l' := #[oR a1, oR ax, oi 0, oi 1, .val .null, oR r_5]) rfl k) ?_
  refine ow (oT T5 m 42 #[oR a1, oR ax, oi 0, oi 1, .val .null, oR r_5] [(.ref a1)]) (fun _ k => XS.aloadN X5.here hx rfl (hb hby d7_41) rfl rfl k) ?_
  refine ow (oT T5 m 44 #[oR a1, oR ax, oi 0, oi 1, .val .null, oR r_5] [(.ref r_5), (.ref a1)]) (fun _ k => XS.aload X5.here hx rfl (hb hby d7_42) rfl rfl k) ?_
  refine ow (oT T5 m 45 #[oR a1, oR ax, oi 0, oi 1, .val .null, oR r_5] [(.int (1 : Int32)), (.ref r_5), (.ref a1)]) (fun _ k => XS.iloadN X5.here hx rfl (hb hby d7_44) rfl k) ?_
  obtain ⟨_, _, ⟨T6, LC6, kC6, nC6⟩, -, X6, ⟨Lc6, hQ6, lq6, yq6, zq6⟩, st6⟩ := Jvm.LawKit.callS X5 hx (y := oM15) hown (mvT hZ (own_hw hw 41)) (mvT hZ (own_hw hw 42)) (mvT hZ (own_hw hw 36)) (mvT hZ (own_hw hw 43)) (by decide) (backOf (W := 1) (rcd_1 l Z a0 hw [] r_5 kr_5 [(.int (own_by u0))] h5 n0 (by omega) g5_0) hZ (own_hw hw 43) (own_hw hw 36) (by decide) (by decide)) (g := (mkF m 45 #[oR a1, oR ax, oi 0, oi 1, .val .null, oR r_5] [(.int (1 : Int32)), (.ref r_5), (.ref a1)])) rfl hml.symm (argsL := [(.ref r_5), (.int (1 : Int32))]) (rest := [(.ref a1)]) (lenOf pd_2 rfl) rfl (Nat.le_of_eq rfl) (hb hby d7_45) (fun _ _ => ⟨rfl, e5, (by decide : 1 + 0 ≤ _), (by decide : 1 + 0 ≤ _)⟩)
  dsimp only [Pt.U, Pt.locs, Pt.cells, Pt.slots] at X6 lq6 yq6 zq6 st6 hQ6
  subst lq6 yq6 zq6
  obtain ⟨rfl, Nq6, eq6⟩ := hQ6
  have N6 := Fr.app N5 Nq6
  refine ow (oT T6 m 48 #[oR a1, oR ax, oi 0, oi 1, .val .null, oR r_5] [(.int (0 : Int32)), (.ref a1)]) (fun t k => st6 t k) ?_
  have c7 : Fld Z h5 a1 oS0 "coder" "B" (.int (0 : Int32)) := (pr3.keep K5 nin0)
  have c8 : Exa Z h5 a1 oS0 := (pr1.keep K5)
  obtain ⟨T9, h9, X9, e9, W9, st9⟩ := putFN X6 hx hZ hown (own_hw hw 24) Via.refl eq6 c7 c8 (Or.inr ⟨(own_hw hw 25), rfl, hnm⟩) (own_hw hw 10) (ty := .byte) (v' := (.int (0 : Int32))) (by decide) rfl rfl (g := (mkF m 48 #[oR a1, oR ax, oi 0, oi 1, .val .null, oR r_5] [(.int (0 : Int32)), (.ref a1)])) rfl rfl (hb hby d7_48)
  have sz9 : h9.size = h5.size := W9.size
  have N9 := Fr.snoc X9 N6 (by omega)
  have f9 : Fld Z h9 a1 oS0 "coder" "B" (.int (0 : Int32)) := c7.same W9
  refine ow (oT T9 m 51 #[oR a1, oR ax, oi 0, oi 1, .val .null, oR r_5] []) (st9) ?_
  refine ow (oT T9 m 52 #[oR a1, oR ax, oi 0, oi 1, .val .null, oR r_5] [(.ref a1)]) (fun _ k => XS.aloadN X9.here hx rfl (hb hby d7_51) rfl rfl k) ?_
  refine ow (oT T9 m 54 #[oR a1, oR ax, oi 0, oi 1, .val .null, oR r_5] [(.ref r_5), (.ref a1)]) (fun _ k => XS.aload X9.here hx rfl (hb hby d7_52) rfl rfl k) ?_
  have c10 : Fld Z h9 a1 oS0 "value" "[B" .null := ((pr2.keep K5 nin0).other W9 (Or.inr (slot_ne (Or.inr (own_hw hw 23)) (Or.inr (own_hw hw 25)) (by decide) (t := (.array .byte)) (t' := .byte) (by decide) (by decide))))
  have c11 : Exa Z h9 a1 oS0 := (c8.wr W9)
  obtain ⟨T12, h12, X12, e12, W12, st12⟩ := putF X9 hx hZ hown (host := "") (Or.inl (own_hw hw 22)) Via.refl e9 c10 c11 (Or.inr ⟨(own_hw hw 23), rfl, hnm⟩) (own_hw hw 10) (ty := (.array .byte)) (by decide) rfl rfl (g := (mkF m 54 #[oR a1, oR ax, oi 0, oi 1, .val .null, oR r_5] [(.ref r_5), (.ref a1)])) rfl rfl (hb hby d7_54)
  have sz12 : h12.size = h9.size := W12.size
  have N12 := Fr.snoc X12 N9 (by omega)
  have f12 : Fld Z h12 a1 oS0 "value" "[B" (.ref r_5) := c10.same W12
  refine ow (oT T12 m 57 #[oR a1, oR ax, oi 0, oi 1, .val .null, oR r_5] []) (st12) ?_
  obtain ⟨fs, hr, hrun, hended, hW, hsame⟩ := X12.leave (v := none) (fun _ => rfl)
  refine ⟨_, _, ?_, hP _ _ hrun hended ⟨_, _, rfl, ?_, ⟨_, rfl⟩, hW, hsame.mono (by decide) (by decide)⟩⟩
  · exact X12.returnOut hx Bd.returns (hb hby d7_57) hr
  ·
   show Qrsi_1 Z a1 ax ka zc u0 h0 n0 _ T12.heap _
   have c14 : Exa Z h12 a1 oS0 := (c11.wr W12)
   have c15 : Fld Z h12 a1 oS0 "coder" "B" (.int (0 : Int32)) := (f9.other W12 (Or.inr (slot_ne (Or.inr (own_hw hw 25)) (Or.inr (own_hw hw 23)) (by decide) (t := .byte) (t' := (.array .byte)) (by decide) (by decide))))
   have c16 : Arv Z h12 r_5 kr_5 .byte (1 : Int32) [(.int (own_by u0))] (.int (0 : Int32)) := ((g5_0.other W9 (own_ne (by omega))).other W12 (own_ne (by omega)))
   rw [e12]
   exact ⟨r_5, kr_5, rfl, N12, ((((Keep.refl h0 [a1]).trans K5 all0).wr W9 (Or.inl (List.mem_of_getElem? (i := 0) rfl))).wr W12 (Or.inl (List.mem_of_getElem? (i := 0) rfl))), c14, f12, c15, c16, (by omega)⟩
theorem pd_3 : parseMethodDescriptor "([CIILjava/lang/Void;)V" = some ⟨[(.array .char), .int, .int, (.object "java/lang/Void")], none⟩ := by decide +kernel
theorem d6_0 : decode jdk_42_method_3_code 0 = .ok (.aload_n 0, 1) := by decide +kernel
theorem d6_1 : decode jdk_42_method_3_code 1 = .ok (.aload_n 1, 1) := by decide +kernel
theorem d6_2 : decode jdk_42_method_3_code 2 = .ok (.iconst 0, 1) := by decide +kernel
theorem d6_3 : decode jdk_42_method_3_code 3 = .ok (.aload_n 1, 1) := by decide +kernel
theorem d6_4 : decode jdk_42_method_3_code 4 = .ok (.arraylength, 1) := by decide +kernel
theorem d6_5 : decode jdk_42_method_3_code 5 = .ok (.aconst_null, 1) := by decide +kernel
theorem d6_6 : decode jdk_42_method_3_code 6 = .ok (.invokespecial 27, 3) := by decide +kernel
theorem d6_9 : decode jdk_42_method_3_code 9 = .ok (.return_, 1) := by decide +kernel
theorem pn_6 : plainName "java/lang/String" = true := by first | (simp [plainName, overriddenIn]; done) | decide +kernel
theorem ef_rsc_1 (m : MethodId) (x0 : Addr) (x1 : Addr) : entryFrame m #[(.ref x0), (.ref x1)] 2 = mkF m 0 #[.val (.ref x0), .val (.ref x1)] [] := by first | (simp [entryFrame, mkF, argsToLocals, Value.category]; done) | rfl
def Qrsc_1 (Z : State) (a1 : Addr) (ax : Addr) (ka : ClassId) (zc : Int32) (u0 : Int32) (h0 : Heap) (n0 : Nat) (v : Option Value) (h : Heap) (L : List Loc) : Prop := ∃ (r : Addr) (kr : ClassId), (v = none) ∧ (Fr n0 L) ∧ (Keep h0 h [a1]) ∧ (Exa Z h a1 "java/lang/String") ∧ (Fld Z h a1 "java/lang/String" "value" "[B" (.ref r)) ∧ (Fld Z h a1 "java/lang/String" "coder" "B" (.int (0 : Int32))) ∧ (Arv Z h r kr .byte (1 : Int32) [(.int (own_by u0))] (.int (0 : Int32))) ∧ (h0.size ≤ r)
set_option maxRecDepth 65536 in
set_option maxHeartbeats 40000000 in
theorem rsc_1 (l : Launch) (Z : State) (a0 : Array Value) (hw : ∀ d ∈ tables_1, d.before a0 Z = true) (ws : List Jvm.Cond) (a1 : Addr) (ax : Addr) (ka : ClassId) (zc : Int32) (u0 : Int32) (h0 : Heap) (n0 : Nat) (Z0 : n0 ≤ h0.size) (pr1 : Exa Z h0 a1 oS0) (pr2 : Fld Z h0 a1 oS0 "value" "[B" .null) (pr3 : Fld Z h0 a1 oS0 "coder" "B" (.int (0 : Int32))) (pr4 : Arv Z h0 ax ka .char (1 : Int32) [(.int u0)] (.int (0 : Int32))) (pr5 : Sta Z h0 oS0 oS4 "Z" (.int zc)) (hzc : ¬ zc = (0 : Int32)) (hl_u0 : own_lat u0) (pr6 : n0 ≤ a1) (pr7 : @Ne Nat a1 ax) :
    MetFree l oM0 (head1 (Jvm.Cond.code oM0 jdk_42_method_3_code 2 none :: ws) ({ frames := 3, cells := 1, slots := 1, locals := 52 } : Room)) (fun a U => a = #[(.ref a1), (.ref ax)] ∧ Z.Warmed39 U.vm ∧ U.heap = h0) (fun _ _ _ _ _ => True) (fun _ U o U' => ∃ v L, o = .returned v ∧ Qrsc_1 Z a1 ax ka zc u0 h0 n0 v U'.heap L ∧ FrameEnd U o U' L ({ frames := 3, cells := 1, slots := 1, locals := 52 } : Room).cells ({ frames := 3, cells := 1, slots := 1, locals := 52 } : Room).slots) := by
  refine MetFree.of_bodySF (plainFor_of_name pn_6) hisR ?_
  intro p e s m args below meth c s₁ Bd hml0 hP0 hK
  obtain ⟨rfl, hZ, hh⟩ := hP0
  have hx := Bd.exec
  have hby := Bd.bytes
  have hml : c.maxLocals = 2 := hml0
  have hown : s.vm.findClass oS0 = some m.cls := findClass_of_methodNamed Bd.named
  have hnm := (name_of_methodNamed Bd.named Bd.method).1
  have X0 : Stand p l e ({ frames := 3, cells := 1, slots := 1, locals := 52 } : Room) s m #[(.ref a1), (.ref ax)] below meth c s₁ [] 0 0 := Stand.of_body Bd
  have e0 : s₁.heap = h0 := by rw [← hh, Bd.state]; rfl
  have N0 := Fr.nil n0
  refine own_fin (st' := s₁.setTop (mkF m 0 #[oR a1, oR ax] [])) (fun _ k => castTop (ef_rsc_1 m a1 ax) k) (fun P hP => ?_)
  have lt_a1 : @LT.lt Nat _ a1 h0.size := pr1.lt
  have lt_ax : @LT.lt Nat _ ax h0.size := pr4.lt
  refine ow (oT s₁ m 1 #[oR a1, oR ax] [(.ref a1)]) (fun _ k => XS.aloadN X0.here hx rfl (hb hby d6_0) rfl rfl k) ?_
  refine ow (oT s₁ m 2 #[oR a1, oR ax] [(.ref ax), (.ref a1)]) (fun _ k => XS.aloadN X0.here hx rfl (hb hby d6_1) rfl rfl k) ?_
  refine ow (oT s₁ m 3 #[oR a1, oR ax] [(.int (0 : Int32)), (.ref ax), (.ref a1)]) (fun _ k => XS.iconst X0.here hx rfl (hb hby d6_2) k) ?_
  refine ow (oT s₁ m 4 #[oR a1, oR ax] [(.ref ax), (.int (0 : Int32)), (.ref ax), (.ref a1)]) (fun _ k => XS.aloadN X0.here hx rfl (hb hby d6_3) rfl rfl k) ?_
  obtain ⟨cl1, Ar1, -, S1, M1, -, -⟩ := id pr4
  refine ow (oT s₁ m 5 #[oR a1, oR ax] [(.int (1 : Int32)), (.int (0 : Int32)), (.ref ax), (.ref a1)]) (fun t k => X0.arraylength hx (by rw [e0]; exact Ar1.1) (State.isArrayOf_alike hZ.alike Ar1.2.1) (g := (mkF m 4 #[oR a1, oR ax] [(.ref ax), (.int (0 : Int32)), (.ref ax), (.ref a1)])) rfl rfl (hb hby d6_4) t (by rw [len_of S1 M1]; exact k)) ?_
  refine ow (oT s₁ m 6 #[oR a1, oR ax] [.null, (.int (1 : Int32)), (.int (0 : Int32)), (.ref ax), (.ref a1)]) (fun _ k => XS.aconstNull X0.here hx rfl (hb hby d6_5) k) ?_
  obtain ⟨_, _, ⟨T2, LC2, kC2, nC2⟩, -, X2, ⟨Lc2, hQ2, lq2, yq2, zq2⟩, st2⟩ := X0.specialBack hx (y := oM6) rfl hown (mvT hZ (own_hw hw 31)) (mvT hZ (own_hw hw 32)) (mvT hZ (own_hw hw 33)) (by decide) (backOf (W := 0) (rsi_1 l Z a0 hw [] a1 ax ka zc u0 h0 n0 (by omega) pr1 pr2 pr3 pr4 pr5 (by assumption) hl_u0 (by omega) (own_ne (by omega))) hZ (own_hw hw 33) (own_hw hw 2) (by decide) (by decide)) (g := (mkF m 6 #[oR a1, oR ax] [.null, (.int (1 : Int32)), (.int (0 : Int32)), (.ref ax), (.ref a1)])) rfl hml.symm (Steps.refl _) (a := a1) (argsL := [(.ref ax), (.int (0 : Int32)), (.int (1 : Int32)), .null]) (rest := []) (lenOf pd_3 rfl) rfl (Nat.le_of_eq rfl) (hb hby d6_6) (fun _ _ => ⟨rfl, e0, (by decide : 0 + 1 ≤ _), (by decide : 0 + 1 ≤ _)⟩)
  dsimp only [Pt.U, Pt.locs, Pt.cells, Pt.slots] at X2 lq2 yq2 zq2 st2 hQ2
  subst lq2 yq2 zq2
  obtain ⟨h2, e2⟩ : ∃ z, T2.heap = z := ⟨_, rfl⟩
  rw [e2] at hQ2
  obtain ⟨r_2, kr_2, rfl, Nq2, K2, g2_0, g2_1, g2_2, g2_3, g2_4⟩ := hQ2
  have sz2 : h0.size ≤ h2.size := K2.1
  have N2 := Fr.app N0 Nq2
  have lt2_1 : @LT.lt Nat _ a1 h2.size := g2_0.lt
  have lt2_2 : @LT.lt Nat _ r_2 h2.size := g2_3.lt
  refine ow (oT T2 m 9 #[oR a1, oR ax] []) (fun _ k => st2.trans k) ?_
  obtain ⟨fs, hr, hrun, hended, hW, hsame⟩ := X2.leave (v := none) (fun _ => rfl)
  refine ⟨_, _, ?_, hP _ _ hrun hended ⟨_, _, rfl, ?_, ⟨_, rfl⟩, hW, hsame.mono (by decide) (by decide)⟩⟩
  · exact X2.returnOut hx Bd.returns (hb hby d6_9) hr
  ·
   show Qrsc_1 Z a1 ax ka zc u0 h0 n0 _ T2.heap _
   rw [e2]
   exact ⟨r_2, kr_2, rfl, N2, ((Keep.refl h0 [a1]).trans K2 (allS (P := fun x => x ∈ [a1] ∨ h0.size ≤ x) (Or.inl (List.mem_of_getElem? (i := 0) rfl)) all0)), g2_0, g2_1, g2_2, g2_3, (by omega)⟩
theorem ef_rcp_2 (m : MethodId) (x0 : Addr) (x1 : Int32) (x2 : Addr) (x3 : Int32) (x4 : Int32) : entryFrame m #[(.ref x0), (.int x1), (.ref x2), (.int x3), (.int x4)] 7 = mkF m 0 #[.val (.ref x0), .val (.int x1), .val (.ref x2), .val (.int x3), .val (.int x4), .unset, .unset] [] := by first | (simp [entryFrame, mkF, argsToLocals, Value.category]; done) | rfl
def Qrcp_2 (Z : State) (ax : Addr) (ka : ClassId) (ay : Addr) (kb : ClassId) (u0 : Int32) (u1 : Int32) (h0 : Heap) (n0 : Nat) (v : Option Value) (h : Heap) (L : List Loc) : Prop := (v = some (.int (2 : Int32))) ∧ (Fr n0 L) ∧ (Keep h0 h [ay]) ∧ (Arv Z h ay kb .byte (2 : Int32) [(.int (own_by u0)), (.int (own_by u1))] (.int (0 : Int32)))
set_option maxRecDepth 65536 in
set_option maxHeartbeats 40000000 in
theorem rcp_2 (l : Launch) (Z : State) (a0 : Array Value) (hw : ∀ d ∈ tables_1, d.before a0 Z = true) (ws : List Jvm.Cond) (ax : Addr) (ka : ClassId) (ay : Addr) (kb : ClassId) (u0 : Int32) (u1 : Int32) (h0 : Heap) (n0 : Nat) (Z0 : n0 ≤ h0.size) (pr1 : Arv Z h0 ax ka .char (2 : Int32) [(.int u0), (.int u1)] (.int (0 : Int32))) (pr2 : Arv Z h0 ay kb .byte (2 : Int32) [(.int (0 : Int32)), (.int (0 : Int32))] (.int (0 : Int32))) (pr3 : n0 ≤ ay) (pr4 : @Ne Nat ax ay) (hl_u0 : own_lat u0) (hl_u1 : own_lat u1) :
    MetFree l oM13 (head1 (Jvm.Cond.code oM13 jdk_52_method_21_code 7 (some .int) :: ws) ({ frames := 0, cells := 0, slots := 0, locals := 0 } : Room)) (fun a U => a = #[(.ref ax), (.int (0 : Int32)), (.ref ay), (.int (0 : Int32)), (.int (2 : Int32))] ∧ Z.Warmed39 U.vm ∧ U.heap = h0) (fun _ _ _ _ _ => True) (fun _ U o U' => ∃ v L, o = .returned v ∧ Qrcp_2 Z ax ka ay kb u0 u1 h0 n0 v U'.heap L ∧ FrameEnd U o U' L ({ frames := 0, cells := 0, slots := 0, locals := 0 } : Room).cells ({ frames := 0, cells := 0, slots := 0, locals := 0 } : Room).slots) := by
  refine MetFree.of_bodySF (plainFor_of_name pn_9) hisR ?_
  intro p e s m args below meth c s₁ Bd hml0 hP0 hK
  obtain ⟨rfl, hZ, hh⟩ := hP0
  have hx := Bd.exec
  have hby := Bd.bytes
  have hml : c.maxLocals = 7 := hml0
  have hown : s.vm.findClass oS13 = some m.cls := findClass_of_methodNamed Bd.named
  have hnm := (name_of_methodNamed Bd.named Bd.method).1
  have X0 : Stand p l e ({ frames := 0, cells := 0, slots := 0, locals := 0 } : Room) s m #[(.ref ax), (.int (0 : Int32)), (.ref ay), (.int (0 : Int32)), (.int (2 : Int32))] below meth c s₁ [] 0 0 := Stand.of_body Bd
  have e0 : s₁.heap = h0 := by rw [← hh, Bd.state]; rfl
  have N0 := Fr.nil n0
  refine own_fin (st' := s₁.setTop (mkF m 0 #[oR ax, oi 0, oR ay, oi 0, oi 2, .unset, .unset] [])) (fun _ k => castTop (ef_rcp_2 m ax (0 : Int32) ay (0 : Int32) (2 : Int32)) k) (fun P hP => ?_)
  have lt_ax : @LT.lt Nat _ ax h0.size := pr1.lt
  have lt_ay : @LT.lt Nat _ ay h0.size := pr2.lt
  refine ow (oT s₁ m 1 #[oR ax, oi 0, oR ay, oi 0, oi 2, .unset, .unset] [(.int (0 : Int32))]) (fun _ k => XS.iconst X0.here hx rfl (hb hby d9_0) k) ?_
  refine ow (oT s₁ m 3 #[oR ax, oi 0, oR ay, oi 0, oi 2, oi 0, .unset] []) (fun _ k => XS.istore X0.here hx rfl (hb hby d9_1) rfl (l' := #[oR ax, oi 0, oR ay, oi 0, oi 2, oi 0, .unset]) rfl k) ?_
  refine ow (oT s₁ m 5 #[oR ax, oi 0, oR ay, oi 0, oi 2, oi 0, .unset] [(.int (0 : Int32))]) (fun _ k => XS.iload X0.here hx rfl (hb hby d9_3) rfl k) ?_
  refine ow (oT s₁ m 7 #[oR ax, oi 0, oR ay, oi 0, oi 2, oi 0, .unset] [(.int (2 : Int32)), (.int (0 : Int32))]) (fun _ k => XS.iload X0.here hx rfl (hb hby d9_5) rfl k) ?_
  have hc1 : (0 : Int32) < (2 : Int32) := by decide
  refine ow (oT s₁ m 10 #[oR ax, oi 0, oR ay, oi 0, oi 2, oi 0, .unset] []) (fun _ k => XS.icmpNo X0.here hx rfl (hb hby d9_7) rfl (tlt hc1).2.1 k) ?_
  refine ow (oT s₁ m 11 #[oR ax, oi 0, oR ay, oi 0, oi 2, oi 0, .unset] [(.ref ax)]) (fun _ k => XS.aloadN X0.here hx rfl (hb hby d9_10) rfl rfl k) ?_
  refine ow (oT s₁ m 12 #[oR ax, oi 0, oR ay, oi 0, oi 2, oi 0, .unset] [(.int (0 : Int32)), (.ref ax)]) (fun _ k => XS.iloadN X0.here hx rfl (hb hby d9_11) rfl k) ?_
  obtain ⟨cl2, Ar2, -, S2, M2, H2, -⟩ := id pr1
  have hin2 : ¬ ((0 : Int32) < 0 ∨ cl2.slots.size ≤ ((0 : Int32)).toNatClampNeg) := (inb_of S2 ⟨by decide, by decide⟩)
  have hat2 : cl2.slots[((0 : Int32)).toNatClampNeg]? = some (.int u0) := (H2.at hin2 rfl)
  refine ow (oT s₁ m 13 #[oR ax, oi 0, oR ay, oi 0, oi 2, oi 0, .unset] [(.int u0)]) (X0.caload hx (j := (0 : Int32)) (v := (.int u0)) (by rw [e0]; exact Ar2.1) (State.isArrayOf_alike hZ.alike Ar2.2.1) Ar2.2.2 hin2 hat2 (g := (mkF m 12 #[oR ax, oi 0, oR ay, oi 0, oi 2, oi 0, .unset] [(.int (0 : Int32)), (.ref ax)])) rfl rfl (hb hby d9_12)) ?_
  refine ow (oT s₁ m 15 #[oR ax, oi 0, oR ay, oi 0, oi 2, oi 0, oi u0] []) (fun _ k => XS.istore X0.here hx rfl (hb hby d9_13) rfl (l' := #[oR ax, oi 0, oR ay, oi 0, oi 2, oi 0, oi u0]) rfl k) ?_
  refine ow (oT s₁ m 17 #[oR ax, oi 0, oR ay, oi 0, oi 2, oi 0, oi u0] [(.int u0)]) (fun _ k => XS.iload X0.here hx rfl (hb hby d9_15) rfl k) ?_
  refine ow (oT s₁ m 20 #[oR ax, oi 0, oR ay, oi 0, oi 2, oi 0, oi u0] [(.int (255 : Int32)), (.int u0)]) (fun _ k => XS.sipush X0.here hx rfl (hb hby d9_17) k) ?_
  have hc3 : ¬ ((255 : Int32) < u0) := (own_lat_le hl_u0)
  refine ow (oT s₁ m 26 #[oR ax, oi 0, oR ay, oi 0, oi 2, oi 0, oi u0] []) (fun _ k => XS.icmpYes X0.here hx rfl (pc0 := 20) (pc' := 26) rfl (hb hby d9_20) rfl (flt hc3).2.2.2 (by decide) (by decide) k) ?_
  refine ow (oT s₁ m 27 #[oR ax, oi 0, oR ay, oi 0, oi 2, oi 0, oi u0] [(.ref ay)]) (fun _ k => XS.aloadN X0.here hx rfl (hb hby d9_26) rfl rfl k) ?_
  refine ow (oT s₁ m 28 #[oR ax, oi 0, oR ay, oi 0, oi 2, oi 0, oi u0] [(.int (0 : Int32)), (.ref ay)]) (fun _ k => XS.iloadN X0.here hx rfl (hb hby d9_27) rfl k) ?_
  refine ow (oT s₁ m 30 #[oR ax, oi 0, oR ay, oi 0, oi 2, oi 0, oi u0] [(.int u0), (.int (0 : Int32)), (.ref ay)]) (fun _ k => XS.iload X0.here hx rfl (hb hby d9_28) rfl k) ?_
  refine ow (oT s₁ m 31 #[oR ax, oi 0, oR ay, oi 0, oi 2, oi 0, oi u0] [(.int u0.toInt8.toInt32), (.int (0 : Int32)), (.ref ay)]) (fun _ k => XS.i2b X0.here hx rfl (hb hby d9_30) rfl k) ?_
  obtain ⟨cl4, Ar4, qc4, S4, M4, H4, G4⟩ := id pr2
  have hin4 : ¬ ((0 : Int32) < 0 ∨ cl4.slots.size ≤ ((0 : Int32)).toNatClampNeg) := (inb_of S4 ⟨by decide, by decide⟩)
  obtain ⟨T4, h4, X4, e4, W4, st4⟩ := stB X0 hx hZ e0 Ar4 (j := (0 : Int32)) hin4 (g := (mkF m 31 #[oR ax, oi 0, oR ay, oi 0, oi 2, oi 0, oi u0] [(.int u0.toInt8.toInt32), (.int (0 : Int32)), (.ref ay)])) rfl rfl (hb hby d9_31)
  have sz4 : h4.size = h0.size := W4.size
  have N4 := Fr.snoc X4 N0 (by omega)
  have v4 : Arv Z h4 ay kb .byte (2 : Int32) [(.int (nar .byte u0.toInt8.toInt32)), (.int (0 : Int32))] (.int (0 : Int32)) := Arv.set Ar4 qc4 S4 M4 H4 G4 (fits_nar_byte _) W4 0 rfl (Nat.le_of_ble_eq_true rfl)
  refine ow (oT T4 m 32 #[oR ax, oi 0, oR ay, oi 0, oi 2, oi 0, oi u0] []) (st4) ?_
  refine ow (oT T4 m 35 #[oR ax, oi 1, oR ay, oi 0, oi 2, oi 0, oi u0] []) (fun _ k => XS.iinc X4.here hx rfl (hb hby d9_32) rfl (l' := #[oR ax, oi 1, oR ay, oi 0, oi 2, oi 0, oi u0]) (by rw [show ((0 : Int32) + Int32.ofInt 1) = (1 : Int32) by decide]; rfl) k) ?_
  refine ow (oT T4 m 38 #[oR ax, oi 1, oR ay, oi 1, oi 2, oi 0, oi u0] []) (fun _ k => XS.iinc X4.here hx rfl (hb hby d9_35) rfl (l' := #[oR ax, oi 1, oR ay, oi 1, oi 2, oi 0, oi u0]) (by rw [show ((0 : Int32) + Int32.ofInt 1) = (1 : Int32) by decide]; rfl) k) ?_
  refine ow (oT T4 m 41 #[oR ax, oi 1, oR ay, oi 1, oi 2, oi 1, oi u0] []) (fun _ k => XS.iinc X4.here hx rfl (hb hby d9_38) rfl (l' := #[oR ax, oi 1, oR ay, oi 1, oi 2, oi 1, oi u0]) (by rw [show ((0 : Int32) + Int32.ofInt 1) = (1 : Int32) by decide]; rfl) k) ?_
  refine ow (oT T4 m 3 #[oR ax, oi 1, oR ay, oi 1, oi 2, oi 1, oi u0] []) (fun _ k => XS.goto X4.here hx rfl (pc0 := 41) (pc' := 3) rfl (hb hby d9_41) (by decide) (by decide) k) ?_
  refine ow (oT T4 m 5 #[oR ax, oi 1, oR ay, oi 1, oi 2, oi 1, oi u0] [(.int (1 : Int32))]) (fun _ k => XS.iload X4.here hx rfl (hb hby d9_3) rfl k) ?_
  refine ow (oT T4 m 7 #[oR ax, oi 1, oR ay, oi 1, oi 2, oi 1, oi u0] [(.int (2 : Int32)), (.int (1 : Int32))]) (fun _ k => XS.iload X4.here hx rfl (hb hby d9_5) rfl k) ?_
  have hc5 : (1 : Int32) < (2 : Int32) := by decide
  refine ow (oT T4 m 10 #[oR ax, oi 1, oR ay, oi 1, oi 2, oi 1, oi u0] []) (fun _ k => XS.icmpNo X4.here hx rfl (hb hby d9_7) rfl (tlt hc5).2.1 k) ?_
  refine ow (oT T4 m 11 #[oR ax, oi 1, oR ay, oi 1, oi 2, oi 1, oi u0] [(.ref ax)]) (fun _ k => XS.aloadN X4.here hx rfl (hb hby d9_10) rfl rfl k) ?_
  refine ow (oT T4 m 12 #[oR ax, oi 1, oR ay, oi 1, oi 2, oi 1, oi u0] [(.int (1 : Int32)), (.ref ax)]) (fun _ k => XS.iloadN X4.here hx rfl (hb hby d9_11) rfl k) ?_
  have c6 : Arv Z h4 ax ka .char (2 : Int32) [(.int u0), (.int u1)] (.int (0 : Int32)) := (pr1.other W4 (own_ne (by omega)))
  obtain ⟨cl7, Ar7, -, S7, M7, H7, -⟩ := id c6
  have hin7 : ¬ ((1 : Int32) < 0 ∨ cl7.slots.size ≤ ((1 : Int32)).toNatClampNeg) := (inb_of S7 ⟨by decide, by decide⟩)
  have hat7 : cl7.slots[((1 : Int32)).toNatClampNeg]? = some (.int u1) := (H7.at hin7 rfl)
  refine ow (oT T4 m 13 #[oR ax, oi 1, oR ay, oi 1, oi 2, oi 1, oi u0] [(.int u1)]) (X4.caload hx (j := (1 : Int32)) (v := (.int u1)) (by rw [e4]; exact Ar7.1) (State.isArrayOf_alike hZ.alike Ar7.2.1) Ar7.2.2 hin7 hat7 (g := (mkF m 12 #[oR ax, oi 1, oR ay, oi 1, oi 2, oi 1, oi u0] [(.int (1 : Int32)), (.ref ax)])) rfl rfl (hb hby d9_12)) ?_
  refine ow (oT T4 m 15 #[oR ax, oi 1, oR ay, oi 1, oi 2, oi 1, oi u1] []) (fun _ k => XS.istore X4.here hx rfl (hb hby d9_13) rfl (l' := #[oR ax, oi 1, oR ay, oi 1, oi 2, oi 1, oi u1]) rfl k) ?_
  refine ow (oT T4 m 17 #[oR ax, oi 1, oR ay, oi 1, oi 2, oi 1, oi u1] [(.int u1)]) (fun _ k => XS.iload X4.here hx rfl (hb hby d9_15) rfl k) ?_
  refine ow (oT T4 m 20 #[oR ax, oi 1, oR ay, oi 1, oi 2, oi 1, oi u1] [(.int (255 : Int32)), (.int u1)]) (fun _ k => XS.sipush X4.here hx rfl (hb hby d9_17) k) ?_
  have hc8 : ¬ ((255 : Int32) < u1) := (own_lat_le hl_u1)
  refine ow (oT T4 m 26 #[oR ax, oi 1, oR ay, oi 1, oi 2, oi 1, oi u1] []) (fun _ k => XS.icmpYes X4.here hx rfl (pc0 := 20) (pc' := 26) rfl (hb hby d9_20) rfl (flt hc8).2.2.2 (by decide) (by decide) k) ?_
  refine ow (oT T4 m 27 #[oR ax, oi 1, oR ay, oi 1, oi 2, oi 1, oi u1] [(.ref ay)]) (fun _ k => XS.aloadN X4.here hx rfl (hb hby d9_26) rfl rfl k) ?_
  refine ow (oT T4 m 28 #[oR ax, oi 1, oR ay, oi 1, oi 2, oi 1, oi u1] [(.int (1 : Int32)), (.ref ay)]) (fun _ k => XS.iloadN X4.here hx rfl (hb hby d9_27) rfl k) ?_
  refine ow (oT T4 m 30 #[oR ax, oi 1, oR ay, oi 1, oi 2, oi 1, oi u1] [(.int u1), (.int (1 : Int32)), (.ref ay)]) (fun _ k => XS.iload X4.here hx rfl (hb hby d9_28) rfl k) ?_
  refine ow (oT T4 m 31 #[oR ax, oi 1, oR ay, oi 1, oi 2, oi 1, oi u1] [(.int u1.toInt8.toInt32), (.int (1 : Int32)), (.ref ay)]) (fun _ k => XS.i2b X4.here hx rfl (hb hby d9_30) rfl k) ?_
  obtain ⟨cl9, Ar9, qc9, S9, M9, H9, G9⟩ := id v4
  have hin9 : ¬ ((1 : Int32) < 0 ∨ cl9.slots.size ≤ ((1 : Int32)).toNatClampNeg) := (inb_of S9 ⟨by decide, by decide⟩)
  obtain ⟨T9, h9, X9, e9, W9, st9⟩ := stB X4 hx hZ e4 Ar9 (j := (1 : Int32)) hin9 (g := (mkF m 31 #[oR ax, oi 1, oR ay, oi 1, oi 2, oi 1, oi u1] [(.int u1.toInt8.toInt32), (.int (1 : Int32)), (.ref ay)])) rfl rfl (hb hby d9_31)
  have sz9 : h9.size = h4.size := W9.size
  have N9 := Fr.snoc X9 N4 (by omega)
  have v9 : Arv Z h9 ay kb .byte (2 : Int32) [(.int (nar .byte u0.toInt8.toInt32)), (.int (nar .byte u1.toInt8.toInt32))] (.int (0 : Int32)) := Arv.set Ar9 qc9 S9 M9 H9 G9 (fits_nar_byte _) W9 1 rfl (Nat.le_of_ble_eq_true rfl)
  refine ow (oT T9 m 32 #[oR ax, oi 1, oR ay, oi 1, oi 2, oi 1, oi u1] []) (st9) ?_
  refine ow (oT T9 m 35 #[oR ax, oi 2, oR ay, oi 1, oi 2, oi 1, oi u1] []) (fun _ k => XS.iinc X9.here hx rfl (hb hby d9_32) rfl (l' := #[oR ax, oi 2, oR ay, oi 1, oi 2, oi 1, oi u1]) (by rw [show ((1 : Int32) + Int32.ofInt 1) = (2 : Int32) by decide]; rfl) k) ?_
  refine ow (oT T9 m 38 #[oR ax, oi 2, oR ay, oi 2, oi 2, oi 1, oi u1] []) (fun _ k => XS.iinc X9.here hx rfl (hb hby d9_35) rfl (l' := #[oR ax, oi 2, oR ay, oi 2, oi 2, oi 1, oi u1]) (by rw [show ((1 : Int32) + Int32.ofInt 1) = (2 : Int32) by decide]; rfl) k) ?_
  refine ow (oT T9 m 41 #[oR ax, oi 2, oR ay, oi 2, oi 2, oi 2, oi u1] []) (fun _ k => XS.iinc X9.here hx rfl (hb hby d9_38) rfl (l' := #[oR ax, oi 2, oR ay, oi 2, oi 2, oi 2, oi u1]) (by rw [show ((1 : Int32) + Int32.ofInt 1) = (2 : Int32) by decide]; rfl) k) ?_
  refine ow (oT T9 m 3 #[oR ax, oi 2, oR ay, oi 2, oi 2, oi 2, oi u1] []) (fun _ k => XS.goto X9.here hx rfl (pc0 := 41) (pc' := 3) rfl (hb hby d9_41) (by decide) (by decide) k) ?_
  refine ow (oT T9 m 5 #[oR ax, oi 2, oR ay, oi 2, oi 2, oi 2, oi u1] [(.int (2 : Int32))]) (fun _ k => XS.iload X9.here hx rfl (hb hby d9_3) rfl k) ?_
  refine ow (oT T9 m 7 #[oR ax, oi 2, oR ay, oi 2, oi 2, oi 2, oi u1] [(.int (2 : Int32)), (.int (2 : Int32))]) (fun _ k => XS.iload X9.here hx rfl (hb hby d9_5) rfl k) ?_
  have hc10 : ¬ ((2 : Int32) < (2 : Int32)) := by decide
  refine ow (oT T9 m 44 #[oR ax, oi 2, oR ay, oi 2, oi 2, oi 2, oi u1] []) (fun _ k => XS.icmpYes X9.here hx rfl (pc0 := 7) (pc' := 44) rfl (hb hby d9_7) rfl (flt hc10).2.1 (by decide) (by decide) k) ?_
  refine ow (oT T9 m 46 #[oR ax, oi 2, oR ay, oi 2, oi 2, oi 2, oi u1] [(.int (2 : Int32))]) (fun _ k => XS.iload X9.here hx rfl (hb hby d9_44) rfl k) ?_
  obtain ⟨fs, hr, hrun, hended, hW, hsame⟩ := X9.leave (v := some (.int (2 : Int32))) (fun h => by rw [Bd.returns] at h; cases h)
  refine ⟨_, _, ?_, hP _ _ hrun hended ⟨_, _, rfl, ?_, ⟨_, rfl⟩, hW, hsame.mono (by decide) (by decide)⟩⟩
  · exact retOut X9 hx Bd.returns rfl (Or.inl ⟨rfl, Or.inl rfl, _, rfl⟩) (hb hby d9_46) hr
  ·
   show Qrcp_2 Z ax ka ay kb u0 u1 h0 n0 _ T9.heap _
   rw [e9]
   exact ⟨rfl, N9, (((Keep.refl h0 [ay]).wr W4 (Or.inl (List.mem_of_getElem? (i := 0) rfl))).wr W9 (Or.inl (List.mem_of_getElem? (i := 0) rfl))), v9⟩
theorem ef_rcq_2 (m : MethodId) (x0 : Addr) (x1 : Int32) (x2 : Int32) : entryFrame m #[(.ref x0), (.int x1), (.int x2)] 6 = mkF m 0 #[.val (.ref x0), .val (.int x1), .val (.int x2), .unset, .unset, .unset] [] := by first | (simp [entryFrame, mkF, argsToLocals, Value.category]; done) | rfl
def Qrcq_2 (Z : State) (ax : Addr) (ka : ClassId) (u0 : Int32) (u1 : Int32) (h0 : Heap) (n0 : Nat) (v : Option Value) (h : Heap) (L : List Loc) : Prop := ∃ (r : Addr) (kr : ClassId), (v = some (.ref r)) ∧ (Fr n0 L) ∧ (Keep h0 h []) ∧ (Arv Z h r kr .byte (2 : Int32) [(.int (own_by u0)), (.int (own_by u1))] (.int (0 : Int32))) ∧ (h0.size ≤ r)
set_option maxRecDepth 65536 in
set_option maxHeartbeats 40000000 in
theorem rcq_2 (l : Launch) (Z : State) (a0 : Array Value) (hw : ∀ d ∈ tables_1, d.before a0 Z = true) (ws : List Jvm.Cond) (ax : Addr) (ka : ClassId) (u0 : Int32) (u1 : Int32) (h0 : Heap) (n0 : Nat) (Z0 : n0 ≤ h0.size) (pr1 : Arv Z h0 ax ka .char (2 : Int32) [(.int u0), (.int u1)] (.int (0 : Int32))) (hl_u0 : own_lat u0) (hl_u1 : own_lat u1) :
    MetFree l oM14 (head1 (Jvm.Cond.code oM14 jdk_52_method_16_code 6 (some (.array .byte)) :: ws) ({ frames := 1, cells := 1, slots := 2, locals := 18 } : Room)) (fun a U => a = #[(.ref ax), (.int (0 : Int32)), (.int (2 : Int32))] ∧ Z.Warmed39 U.vm ∧ U.heap = h0) (fun _ _ _ _ _ => True) (fun _ U o U' => ∃ v L, o = .returned v ∧ Qrcq_2 Z ax ka u0 u1 h0 n0 v U'.heap L ∧ FrameEnd U o U' L ({ frames := 1, cells := 1, slots := 2, locals := 18 } : Room).cells ({ frames := 1, cells := 1, slots := 2, locals := 18 } : Room).slots) := by
  refine MetFree.of_bodySF (plainFor_of_name pn_8) hisR ?_
  intro p e s m args below meth c s₁ Bd hml0 hP0 hK
  obtain ⟨rfl, hZ, hh⟩ := hP0
  have hx := Bd.exec
  have hby := Bd.bytes
  have hml : c.maxLocals = 6 := hml0
  have hown : s.vm.findClass oS13 = some m.cls := findClass_of_methodNamed Bd.named
  have hnm := (name_of_methodNamed Bd.named Bd.method).1
  have X0 : Stand p l e ({ frames := 1, cells := 1, slots := 2, locals := 18 } : Room) s m #[(.ref ax), (.int (0 : Int32)), (.int (2 : Int32))] below meth c s₁ [] 0 0 := Stand.of_body Bd
  have e0 : s₁.heap = h0 := by rw [← hh, Bd.state]; rfl
  have N0 := Fr.nil n0
  refine own_fin (st' := s₁.setTop (mkF m 0 #[oR ax, oi 0, oi 2, .unset, .unset, .unset] [])) (fun _ k => castTop (ef_rcq_2 m ax (0 : Int32) (2 : Int32)) k) (fun P hP => ?_)
  have lt_ax : @LT.lt Nat _ ax h0.size := pr1.lt
  refine ow (oT s₁ m 1 #[oR ax, oi 0, oi 2, .unset, .unset, .unset] [(.int (2 : Int32))]) (fun _ k => XS.iloadN X0.here hx rfl (hb hby d8_0) rfl k) ?_
  obtain ⟨T1, h1, k1, X1, e1, E1, A1, st1⟩ := newP X0 hx hZ (own_hw hw 14) e0 (g := (mkF m 1 #[oR ax, oi 0, oi 2, .unset, .unset, .unset] [(.int (2 : Int32))])) rfl (hb hby d8_1) rfl (by decide) (cap := 2) (by decide) (by decide) (by decide) (by decide)
  obtain ⟨b1, g1⟩ : ∃ z, z = h0.size := ⟨_, rfl⟩
  rw [← g1] at A1 st1
  have sz1 : h0.size ≤ h1.size := E1.1
  have lt1 : @LT.lt Nat _ b1 h1.size := A1.lt
  have v1 : Arv Z h1 b1 k1 .byte (2 : Int32) [(.int (0 : Int32)), (.int (0 : Int32))] (.int (0 : Int32)) := (Arv.new A1 (by decide)).pad (pad_rep [] (.int (0 : Int32)) 2)
  refine ow (oT T1 m 3 #[oR ax, oi 0, oi 2, .unset, .unset, .unset] [(.ref b1)]) (st1) ?_
  refine ow (oT T1 m 4 #[oR ax, oi 0, oi 2, oR b1, .unset, .unset] []) (fun _ k => XS.astoreN X1.here hx rfl (hb hby d8_3) rfl rfl (l' := #[oR ax, oi 0, oi 2, oR b1, .unset, .unset]) rfl k) ?_
  refine ow (oT T1 m 5 #[oR ax, oi 0, oi 2, oR b1, .unset, .unset] [(.ref ax)]) (fun _ k => XS.aloadN X1.here hx rfl (hb hby d8_4) rfl rfl k) ?_
  refine ow (oT T1 m 6 #[oR ax, oi 0, oi 2, oR b1, .unset, .unset] [(.int (0 : Int32)), (.ref ax)]) (fun _ k => XS.iloadN X1.here hx rfl (hb hby d8_5) rfl k) ?_
  refine ow (oT T1 m 7 #[oR ax, oi 0, oi 2, oR b1, .unset, .unset] [(.ref b1), (.int (0 : Int32)), (.ref ax)]) (fun _ k => XS.aloadN X1.here hx rfl (hb hby d8_6) rfl rfl k) ?_
  refine ow (oT T1 m 8 #[oR ax, oi 0, oi 2, oR b1, .unset, .unset] [(.int (0 : Int32)), (.ref b1), (.int (0 : Int32)), (.ref ax)]) (fun _ k => XS.iconst X1.here hx rfl (hb hby d8_7) k) ?_
  refine ow (oT T1 m 9 #[oR ax, oi 0, oi 2, oR b1, .unset, .unset] [(.int (2 : Int32)), (.int (0 : Int32)), (.ref b1), (.int (0 : Int32)), (.ref ax)]) (fun _ k => XS.iloadN X1.here hx rfl (hb hby d8_8) rfl k) ?_
  have c3 : Arv Z h1 ax ka .char (2 : Int32) [(.int u0), (.int u1)] (.int (0 : Int32)) := (pr1.ext E1)
  obtain ⟨_, _, ⟨T2, LC2, kC2, nC2⟩, -, X2, ⟨Lc2, hQ2, lq2, yq2, zq2⟩, st2⟩ := Jvm.LawKit.callS X1 hx (y := oM13) hown (mvT hZ (own_hw hw 38)) (mvT hZ (own_hw hw 39)) (mvT hZ (own_hw hw 36)) (mvT hZ (own_hw hw 40)) (by decide) (backOf (W := 0) (rcp_2 l Z a0 hw [] ax ka b1 k1 u0 u1 h1 n0 (by omega) c3 v1 (by omega) (own_ne (by omega)) hl_u0 hl_u1) hZ (own_hw hw 40) (own_hw hw 36) (by decide) (by decide)) (g := (mkF m 9 #[oR ax, oi 0, oi 2, oR b1, .unset, .unset] [(.int (2 : Int32)), (.int (0 : Int32)), (.ref b1), (.int (0 : Int32)), (.ref ax)])) rfl hml.symm (argsL := [(.ref ax), (.int (0 : Int32)), (.ref b1), (.int (0 : Int32)), (.int (2 : Int32))]) (rest := []) (lenOf pd_0 rfl) rfl (Nat.le_of_eq rfl) (hb hby d8_9) (fun _ _ => ⟨rfl, e1, (by decide : 1 + 0 ≤ _), (by decide : 2 + 0 ≤ _)⟩)
  dsimp only [Pt.U, Pt.locs, Pt.cells, Pt.slots] at X2 lq2 yq2 zq2 st2 hQ2
  subst lq2 yq2 zq2
  obtain ⟨h2, e2⟩ : ∃ z, T2.heap = z := ⟨_, rfl⟩
  rw [e2] at hQ2
  obtain ⟨rfl, Nq2, K2, g2_0⟩ := hQ2
  have sz2 : h1.size ≤ h2.size := K2.1
  have N2 := Fr.app N0 Nq2
  have lt2_1 : @LT.lt Nat _ b1 h2.size := g2_0.lt
  refine ow (oT T2 m 12 #[oR ax, oi 0, oi 2, oR b1, .unset, .unset] [(.int (2 : Int32))]) (fun t k => st2 t k) ?_
  refine ow (oT T2 m 14 #[oR ax, oi 0, oi 2, oR b1, oi 2, .unset] []) (fun _ k => XS.istore X2.here hx rfl (hb hby d8_12) rfl (l' := #[oR ax, oi 0, oi 2, oR b1, oi 2, .unset]) rfl k) ?_
  refine ow (oT T2 m 16 #[oR ax, oi 0, oi 2, oR b1, oi 2, .unset] [(.int (2 : Int32))]) (fun _ k => XS.iload X2.here hx rfl (hb hby d8_14) rfl k) ?_
  refine ow (oT T2 m 17 #[oR ax, oi 0, oi 2, oR b1, oi 2, .unset] [(.int (2 : Int32)), (.int (2 : Int32))]) (fun _ k => XS.iloadN X2.here hx rfl (hb hby d8_16) rfl k) ?_
  have hc4 : (2 : Int32) = (2 : Int32) := by decide
  refine ow (oT T2 m 57 #[oR ax, oi 0, oi 2, oR b1, oi 2, .unset] []) (fun _ k => XS.icmpYes X2.here hx rfl (pc0 := 17) (pc' := 57) rfl (hb hby d8_17) rfl (teq hc4).1 (by decide) (by decide) k) ?_
  refine ow (oT T2 m 58 #[oR ax, oi 0, oi 2, oR b1, oi 2, .unset] [(.ref b1)]) (fun _ k => XS.aloadN X2.here hx rfl (hb hby d8_57) rfl rfl k) ?_
  obtain ⟨fs, hr, hrun, hended, hW, hsame⟩ := X2.leave (v := some (.ref b1)) (fun h => by rw [Bd.returns] at h; cases h)
  refine ⟨_, _, ?_, hP _ _ hrun hended ⟨_, _, rfl, ?_, ⟨_, rfl⟩, hW, hsame.mono (by decide) (by decide)⟩⟩
  · exact retOut X2 hx Bd.returns rfl (Or.inr (Or.inr (Or.inr (Or.inr ⟨rfl, rfl, rfl⟩)))) (hb hby d8_58) hr
  ·
   show Qrcq_2 Z ax ka u0 u1 h0 n0 _ T2.heap _
   rw [e2]
   exact ⟨b1, k1, rfl, N2, (((Keep.refl h0 []).ext E1).trans K2 (allS (P := fun x => x ∈ [] ∨ h0.size ≤ x) (Or.inr (by omega)) all0)), g2_0, (by omega)⟩
theorem ef_rcd_2 (m : MethodId) (x0 : Addr) (x1 : Int32) : entryFrame m #[(.ref x0), (.int x1)] 2 = mkF m 0 #[.val (.ref x0), .val (.int x1)] [] := by first | (simp [entryFrame, mkF, argsToLocals, Value.category]; done) | rfl
def Qrcd_2 (Z : State) (ax : Addr) (ka : ClassId) (vs : List Value) (h0 : Heap) (n0 : Nat) (v : Option Value) (h : Heap) (L : List Loc) : Prop := (v = some (.int (0 : Int32))) ∧ (Fr n0 L) ∧ (h = h0)
set_option maxRecDepth 65536 in
set_option maxHeartbeats 40000000 in
theorem rcd_2 (l : Launch) (Z : State) (a0 : Array Value) (hw : ∀ d ∈ tables_1, d.before a0 Z = true) (ws : List Jvm.Cond) (ax : Addr) (ka : ClassId) (vs : List Value) (h0 : Heap) (n0 : Nat) (Z0 : n0 ≤ h0.size) (pr1 : Arv Z h0 ax ka .byte (2 : Int32) vs (.int (0 : Int32))) :
    MetFree l oM15 (head1 (Jvm.Cond.code oM15 jdk_52_method_15_code 2 (some .byte) :: ws) ({ frames := 0, cells := 0, slots := 0, locals := 0 } : Room)) (fun a U => a = #[(.ref ax), (.int (2 : Int32))] ∧ Z.Warmed39 U.vm ∧ U.heap = h0) (fun _ _ _ _ _ => True) (fun _ U o U' => ∃ v L, o = .returned v ∧ Qrcd_2 Z ax ka vs h0 n0 v U'.heap L ∧ FrameEnd U o U' L ({ frames := 0, cells := 0, slots := 0, locals := 0 } : Room).cells ({ frames := 0, cells := 0, slots := 0, locals := 0 } : Room).slots) := by
  refine MetFree.of_bodySF (plainFor_of_name pn_10) hisR ?_
  intro p e s m args below meth c s₁ Bd hml0 hP0 hK
  obtain ⟨rfl, hZ, hh⟩ := hP0
  have hx := Bd.exec
  have hby := Bd.bytes
  have hml : c.maxLocals = 2 := hml0
  have hown : s.vm.findClass oS13 = some m.cls := findClass_of_methodNamed Bd.named
  have hnm := (name_of_methodNamed Bd.named Bd.method).1
  have X0 : Stand p l e ({ frames := 0, cells := 0, slots := 0, locals := 0 } : Room) s m #[(.ref ax), (.int (2 : Int32))] below meth c s₁ [] 0 0 := Stand.of_body Bd
  have e0 : s₁.heap = h0 := by rw [← hh, Bd.state]; rfl
  have N0 := Fr.nil n0
  refine own_fin (st' := s₁.setTop (mkF m 0 #[oR ax, oi 2] [])) (fun _ k => castTop (ef_rcd_2 m ax (2 : Int32)) k) (fun P hP => ?_)
  have lt_ax : @LT.lt Nat _ ax h0.size := pr1.lt
  refine ow (oT s₁ m 1 #[oR ax, oi 2] [(.int (2 : Int32))]) (fun _ k => XS.iloadN X0.here hx rfl (hb hby d10_0) rfl k) ?_
  refine ow (oT s₁ m 2 #[oR ax, oi 2] [(.ref ax), (.int (2 : Int32))]) (fun _ k => XS.aloadN X0.here hx rfl (hb hby d10_1) rfl rfl k) ?_
  obtain ⟨cl1, Ar1, -, S1, M1, -, -⟩ := id pr1
  refine ow (oT s₁ m 3 #[oR ax, oi 2] [(.int (2 : Int32)), (.int (2 : Int32))]) (fun t k => X0.arraylength hx (by rw [e0]; exact Ar1.1) (State.isArrayOf_alike hZ.alike Ar1.2.1) (g := (mkF m 2 #[oR ax, oi 2] [(.ref ax), (.int (2 : Int32))])) rfl rfl (hb hby d10_2) t (by rw [len_of S1 M1]; exact k)) ?_
  refine ow (oT s₁ m 4 #[oR ax, oi 2] [(.int (0 : Int32))]) (fun _ k => XS.isub X0.here hx rfl (hb hby d10_3) rfl (by rw [show ((2 : Int32) - (2 : Int32)) = (0 : Int32) by decide]; exact k)) ?_
  refine ow (oT s₁ m 6 #[oR ax, oi 2] [(.int (31 : Int32)), (.int (0 : Int32))]) (fun _ k => XS.bipush X0.here hx rfl (hb hby d10_4) k) ?_
  refine ow (oT s₁ m 7 #[oR ax, oi 2] [(.int (((0 : Int32).toUInt32 >>> ((31 : Int32) &&& 31).toUInt32).toInt32))]) (fun _ k => XS.iushr X0.here hx rfl (hb hby d10_6) rfl k) ?_
  refine ow (oT s₁ m 8 #[oR ax, oi 2] [(.int (((0 : Int32).toUInt32 >>> ((31 : Int32) &&& 31).toUInt32).toInt32).toInt8.toInt32)]) (fun _ k => XS.i2b X0.here hx rfl (hb hby d10_7) rfl k) ?_
  obtain ⟨fs, hr, hrun, hended, hW, hsame⟩ := X0.leave (v := some (.int (nar .byte (((0 : Int32).toUInt32 >>> ((31 : Int32) &&& 31).toUInt32).toInt32).toInt8.toInt32))) (fun h => by rw [Bd.returns] at h; cases h)
  refine ⟨_, _, ?_, hP _ _ hrun hended ⟨_, _, rfl, ?_, ⟨_, rfl⟩, hW, hsame.mono (by decide) (by decide)⟩⟩
  · exact retN X0 hx (t := .byte) Bd.returns (by simp) (hb hby d10_8) hr
  ·
   show Qrcd_2 Z ax ka vs h0 n0 _ s₁.heap _
   rw [e0]
   exact ⟨(congrArg (fun z => some (Value.int z)) (by decide +kernel)), N0, rfl⟩
theorem ef_rsi_2 (m : MethodId) (x0 : Addr) (x1 : Addr) (x2 : Int32) (x3 : Int32) : entryFrame m #[(.ref x0), (.ref x1), (.int x2), (.int x3), .null] 6 = mkF m 0 #[.val (.ref x0), .val (.ref x1), .val (.int x2), .val (.int x3), .val .null, .unset] [] := by first | (simp [entryFrame, mkF, argsToLocals, Value.category]; done) | rfl
def Qrsi_2 (Z : State) (a1 : Addr) (ax : Addr) (ka : ClassId) (zc : Int32) (u0 : Int32) (u1 : Int32) (h0 : Heap) (n0 : Nat) (v : Option Value) (h : Heap) (L : List Loc) : Prop := ∃ (r : Addr) (kr : ClassId), (v = none) ∧ (Fr n0 L) ∧ (Keep h0 h [a1]) ∧ (Exa Z h a1 "java/lang/String") ∧ (Fld Z h a1 "java/lang/String" "value" "[B" (.ref r)) ∧ (Fld Z h a1 "java/lang/String" "coder" "B" (.int (0 : Int32))) ∧ (Arv Z h r kr .byte (2 : Int32) [(.int (own_by u0)), (.int (own_by u1))] (.int (0 : Int32))) ∧ (h0.size ≤ r)
set_option maxRecDepth 65536 in
set_option maxHeartbeats 40000000 in
theorem rsi_2 (l : Launch) (Z : State) (a0 : Array Value) (hw : ∀ d ∈ tables_1, d.before a0 Z = true) (ws : List Jvm.Cond) (a1 : Addr) (ax : Addr) (ka : ClassId) (zc : Int32) (u0 : Int32) (u1 : Int32) (h0 : Heap) (n0 : Nat) (Z0 : n0 ≤ h0.size) (pr1 : Exa Z h0 a1 oS0) (pr2 : Fld Z h0 a1 oS0 "value" "[B" .null) (pr3 : Fld Z h0 a1 oS0 "coder" "B" (.int (0 : Int32))) (pr4 : Arv Z h0 ax ka .char (2 : Int32) [(.int u0), (.int u1)] (.int (0 : Int32))) (pr5 : Sta Z h0 oS0 oS4 "Z" (.int zc)) (hzc : ¬ zc = (0 : Int32)) (hl_u0 : own_lat u0) (hl_u1 : own_lat u1) (pr6 : n0 ≤ a1) (pr7 : @Ne Nat a1 ax) :
    MetFree l oM6 (head1 (Jvm.Cond.code oM6 jdk_42_method_149_code 6 none :: ws) ({ frames := 2, cells := 1, slots := 2, locals := 35 } : Room)) (fun a U => a = #[(.ref a1), (.ref ax), (.int (0 : Int32)), (.int (2 : Int32)), .null] ∧ Z.Warmed39 U.vm ∧ U.heap = h0) (fun _ _ _ _ _ => True) (fun _ U o U' => ∃ v L, o = .returned v ∧ Qrsi_2 Z a1 ax ka zc u0 u1 h0 n0 v U'.heap L ∧ FrameEnd U o U' L ({ frames := 2, cells := 1, slots := 2, locals := 35 } : Room).cells ({ frames := 2, cells := 1, slots := 2, locals := 35 } : Room).slots) := by
  refine MetFree.of_bodySF (plainFor_of_name pn_7) hisR ?_
  intro p e s m args below meth c s₁ Bd hml0 hP0 hK
  obtain ⟨rfl, hZ, hh⟩ := hP0
  have hx := Bd.exec
  have hby := Bd.bytes
  have hml : c.maxLocals = 6 := hml0
  have hown : s.vm.findClass oS0 = some m.cls := findClass_of_methodNamed Bd.named
  have hnm := (name_of_methodNamed Bd.named Bd.method).1
  have X0 : Stand p l e ({ frames := 2, cells := 1, slots := 2, locals := 35 } : Room) s m #[(.ref a1), (.ref ax), (.int (0 : Int32)), (.int (2 : Int32)), .null] below meth c s₁ [] 0 0 := Stand.of_body Bd
  have e0 : s₁.heap = h0 := by rw [← hh, Bd.state]; rfl
  have N0 := Fr.nil n0
  refine own_fin (st' := s₁.setTop (mkF m 0 #[oR a1, oR ax, oi 0, oi 2, .val .null, .unset] [])) (fun _ k => castTop (ef_rsi_2 m a1 ax (0 : Int32) (2 : Int32)) k) (fun P hP => ?_)
  have lt_a1 : @LT.lt Nat _ a1 h0.size := pr1.lt
  have lt_ax : @LT.lt Nat _ ax h0.size := pr4.lt
  refine ow (oT s₁ m 1 #[oR a1, oR ax, oi 0, oi 2, .val .null, .unset] [(.ref a1)]) (fun _ k => XS.aloadN X0.here hx rfl (hb hby d7_0) rfl rfl k) ?_
  obtain ⟨T1, X1, e1, st1⟩ := initO X0 hx hZ hown (own_hw hw 19) (own_hw hw 20) (own_hw hw 21) e0 (g := (mkF m 1 #[oR a1, oR ax, oi 0, oi 2, .val .null, .unset] [(.ref a1)])) rfl (by rw [hml]; rfl) rfl (hb hby d7_1) (by decide) (W := 0) (by show 2 * 0 + _ ≤ _; exact Nat.le_of_eq rfl) (by decide)
  refine ow (oT T1 m 4 #[oR a1, oR ax, oi 0, oi 2, .val .null, .unset] []) (st1) ?_
  refine ow (oT T1 m 5 #[oR a1, oR ax, oi 0, oi 2, .val .null, .unset] [(.int (2 : Int32))]) (fun _ k => XS.iloadN X1.here hx rfl (hb hby d7_4) rfl k) ?_
  have hc2 : ¬ ((2 : Int32) = (0 : Int32)) := by decide
  refine ow (oT T1 m 27 #[oR a1, oR ax, oi 0, oi 2, .val .null, .unset] []) (fun _ k => XS.ifYes X1.here hx rfl (pc0 := 5) (pc' := 27) rfl (hb hby d7_5) rfl ((if0 _ _).trans (feq hc2).2) (by decide) (by decide) k) ?_
  obtain ⟨T3, X3, e3, st3⟩ := getS2 X1 hx hZ hown (host := "") (Or.inl (own_hw hw 4)) Via.refl e1 pr5 (g := (mkF m 27 #[oR a1, oR ax, oi 0, oi 2, .val .null, .unset] [])) rfl (hb hby d7_27)
  refine ow (oT T3 m 30 #[oR a1, oR ax, oi 0, oi 2, .val .null, .unset] [(.int zc)]) (st3) ?_
  have hc4 : ¬ (zc = (0 : Int32)) := hzc
  refine ow (oT T3 m 33 #[oR a1, oR ax, oi 0, oi 2, .val .null, .unset] []) (fun _ k => XS.ifNo X3.here hx rfl (hb hby d7_30) rfl ((if0 _ _).trans (feq hc4).1) k) ?_
  refine ow (oT T3 m 34 #[oR a1, oR ax, oi 0, oi 2, .val .null, .unset] [(.ref ax)]) (fun _ k => XS.aloadN X3.here hx rfl (hb hby d7_33) rfl rfl k) ?_
  refine ow (oT T3 m 35 #[oR a1, oR ax, oi 0, oi 2, .val .null, .unset] [(.int (0 : Int32)), (.ref ax)]) (fun _ k => XS.iloadN X3.here hx rfl (hb hby d7_34) rfl k) ?_
  refine ow (oT T3 m 36 #[oR a1, oR ax, oi 0, oi 2, .val .null, .unset] [(.int (2 : Int32)), (.int (0 : Int32)), (.ref ax)]) (fun _ k => XS.iloadN X3.here hx rfl (hb hby d7_35) rfl k) ?_
  obtain ⟨_, _, ⟨T5, LC5, kC5, nC5⟩, -, X5, ⟨Lc5, hQ5, lq5, yq5, zq5⟩, st5⟩ := Jvm.LawKit.callS X3 hx (y := oM14) hown (mvT hZ (own_hw hw 34)) (mvT hZ (own_hw hw 35)) (mvT hZ (own_hw hw 36)) (mvT hZ (own_hw hw 37)) (by decide) (backOf (W := 0) (rcq_2 l Z a0 hw [] ax ka u0 u1 h0 n0 (by omega) pr4 hl_u0 hl_u1) hZ (own_hw hw 37) (own_hw hw 36) (by decide) (by decide)) (g := (mkF m 36 #[oR a1, oR ax, oi 0, oi 2, .val .null, .unset] [(.int (2 : Int32)), (.int (0 : Int32)), (.ref ax)])) rfl hml.symm (argsL := [(.ref ax), (.int (0 : Int32)), (.int (2 : Int32))]) (rest := []) (lenOf pd_1 rfl) rfl (Nat.le_of_eq rfl) (hb hby d7_36) (fun _ _ => ⟨rfl, e3, (by decide : 0 + 1 ≤ _), (by decide : 0 + 2 ≤ _)⟩)
  dsimp only [Pt.U, Pt.locs, Pt.cells, Pt.slots] at X5 lq5 yq5 zq5 st5 hQ5
  subst lq5 yq5 zq5
  obtain ⟨h5, e5⟩ : ∃ z, T5.heap = z := ⟨_, rfl⟩
  rw [e5] at hQ5
  obtain ⟨r_5, kr_5, rfl, Nq5, K5, g5_0, g5_1⟩ := hQ5
  have sz5 : h0.size ≤ h5.size := K5.1
  have N5 := Fr.app N0 Nq5
  have lt5_1 : @LT.lt Nat _ r_5 h5.size := g5_0.lt
  refine ow (oT T5 m 39 #[oR a1, oR ax, oi 0, oi 2, .val .null, .unset] [(.ref r_5)]) (fun t k => st5 t k) ?_
  refine ow (oT T5 m 41 #[oR a1, oR ax, oi 0, oi 2, .val .null, oR r_5] []) (fun _ k => XS.astore X5.here hx rfl (hb hby d7_39) rfl rfl (l' := #[oR a1, oR ax, oi 0, oi 2, .val .null, oR r_5]) rfl k) ?_
  refine ow (oT T5 m 42 #[oR a1, oR ax, oi 0, oi 2, .val .null, oR r_5] [(.ref a1)]) (fun _ k => XS.aloadN X5.here hx rfl (hb hby d7_41) rfl rfl k) ?_
  refine ow (oT T5 m 44 #[oR a1, oR ax, oi 0, oi 2, .val .null, oR r_5] [(.ref r_5), (.ref a1)]) (fun _ k => XS.aload X5.here hx rfl (hb hby d7_42) rfl rfl k) ?_
  refine ow (oT T5 m 45 #[oR a1, oR ax, oi 0, oi 2, .val .null, oR r_5] [(.int (2 : Int32)), (.ref r_5), (.ref a1)]) (fun _ k => XS.iloadN X5.here hx rfl (hb hby d7_44) rfl k) ?_
  obtain ⟨_, _, ⟨T6, LC6, kC6, nC6⟩, -, X6, ⟨Lc6, hQ6, lq6, yq6, zq6⟩, st6⟩ := Jvm.LawKit.callS X5 hx (y := oM15) hown (mvT hZ (own_hw hw 41)) (mvT hZ (own_hw hw 42)) (mvT hZ (own_hw hw 36)) (mvT hZ (own_hw hw 43)) (by decide) (backOf (W := 1) (rcd_2 l Z a0 hw [] r_5 kr_5 [(.int (own_by u0)), (.int (own_by u1))] h5 n0 (by omega) g5_0) hZ (own_hw hw 43) (own_hw hw 36) (by decide) (by decide)) (g := (mkF m 45 #[oR a1, oR ax, oi 0, oi 2, .val .null, oR r_5] [(.int (2 : Int32)), (.ref r_5), (.ref a1)])) rfl hml.symm (argsL := [(.ref r_5), (.int (2 : Int32))]) (rest := [(.ref a1)]) (lenOf pd_2 rfl) rfl (Nat.le_of_eq rfl) (hb hby d7_45) (fun _ _ => ⟨rfl, e5, (by decide : 1 + 0 ≤ _), (by decide : 2 + 0 ≤ _)⟩)
  dsimp only [Pt.U, Pt.locs, Pt.cells, Pt.slots] at X6 lq6 yq6 zq6 st6 hQ6
  subst lq6 yq6 zq6
  obtain ⟨rfl, Nq6, eq6⟩ := hQ6
  have N6 := Fr.app N5 Nq6
  refine ow (oT T6 m 48 #[oR a1, oR ax, oi 0, oi 2, .val .null, oR r_5] [(.int (0 : Int32)), (.ref a1)]) (fun t k => st6 t k) ?_
  have c7 : Fld Z h5 a1 oS0 "coder" "B" (.int (0 : Int32)) := (pr3.keep K5 nin0)
  have c8 : Exa Z h5 a1 oS0 := (pr1.keep K5)
  obtain ⟨T9, h9, X9, e9, W9, st9⟩ := putFN X6 hx hZ hown (own_hw hw 24) Via.refl eq6 c7 c8 (Or.inr ⟨(own_hw hw 25), rfl, hnm⟩) (own_hw hw 10) (ty := .byte) (v' := (.int (0 : Int32))) (by decide) rfl rfl (g := (mkF m 48 #[oR a1, oR ax, oi 0, oi 2, .val .null, oR r_5] [(.int (0 : Int32)), (.ref a1)])) rfl rfl (hb hby d7_48)
  have sz9 : h9.size = h5.size := W9.size
  have N9 := Fr.snoc X9 N6 (by omega)
  have f9 : Fld Z h9 a1 oS0 "coder" "B" (.int (0 : Int32)) := c7.same W9
  refine ow (oT T9 m 51 #[oR a1, oR ax, oi 0, oi 2, .val .null, oR r_5] []) (st9) ?_
  refine ow (oT T9 m 52 #[oR a1, oR ax, oi 0, oi 2, .val .null, oR r_5] [(.ref a1)]) (fun _ k => XS.aloadN X9.here hx rfl (hb hby d7_51) rfl rfl k) ?_
  refine ow (oT T9 m 54 #[oR a1, oR ax, oi 0, oi 2, .val .null, oR r_5] [(.ref r_5), (.ref a1)]) (fun _ k => XS.aload X9.here hx rfl (hb hby d7_52) rfl rfl k) ?_
  have c10 : Fld Z h9 a1 oS0 "value" "[B" .null := ((pr2.keep K5 nin0).other W9 (Or.inr (slot_ne (Or.inr (own_hw hw 23)) (Or.inr (own_hw hw 25)) (by decide) (t := (.array .byte)) (t' := .byte) (by decide) (by decide))))
  have c11 : Exa Z h9 a1 oS0 := (c8.wr W9)
  obtain ⟨T12, h12, X12, e12, W12, st12⟩ := putF X9 hx hZ hown (host := "") (Or.inl (own_hw hw 22)) Via.refl e9 c10 c11 (Or.inr ⟨(own_hw hw 23), rfl, hnm⟩) (own_hw hw 10) (ty := (.array .byte)) (by decide) rfl rfl (g := (mkF m 54 #[oR a1, oR ax, oi 0, oi 2, .val .null, oR r_5] [(.ref r_5), (.ref a1)])) rfl rfl (hb hby d7_54)
  have sz12 : h12.size = h9.size := W12.size
  have N12 := Fr.snoc X12 N9 (by omega)
  have f12 : Fld Z h12 a1 oS0 "value" "[B" (.ref r_5) := c10.same W12
  refine ow (oT T12 m 57 #[oR a1, oR ax, oi 0, oi 2, .val .null, oR r_5] []) (st12) ?_
  obtain ⟨fs, hr, hrun, hended, hW, hsame⟩ := X12.leave (v := none) (fun _ => rfl)
  refine ⟨_, _, ?_, hP _ _ hrun hended ⟨_, _, rfl, ?_, ⟨_, rfl⟩, hW, hsame.mono (by decide) (by decide)⟩⟩
  · exact X12.returnOut hx Bd.returns (hb hby d7_57) hr
  ·
   show Qrsi_2 Z a1 ax ka zc u0 u1 h0 n0 _ T12.heap _
   have c14 : Exa Z h12 a1 oS0 := (c11.wr W12)
   have c15 : Fld Z h12 a1 oS0 "coder" "B" (.int (0 : Int32)) := (f9.other W12 (Or.inr (slot_ne (Or.inr (own_hw hw 25)) (Or.inr (own_hw hw 23)) (by decide) (t := .byte) (t' := (.array .byte)) (by decide) (by decide))))
   have c16 : Arv Z h12 r_5 kr_5 .byte (2 : Int32) [(.int (own_by u0)), (.int (own_by u1))] (.int (0 : Int32)) := ((g5_0.other W9 (own_ne (by omega))).other W12 (own_ne (by omega)))
   rw [e12]
   exact ⟨r_5, kr_5, rfl, N12, ((((Keep.refl h0 [a1]).trans K5 all0).wr W9 (Or.inl (List.mem_of_getElem? (i := 0) rfl))).wr W12 (Or.inl (List.mem_of_getElem? (i := 0) rfl))), c14, f12, c15, c16, (by omega)⟩
theorem ef_rsc_2 (m : MethodId) (x0 : Addr) (x1 : Addr) : entryFrame m #[(.ref x0), (.ref x1)] 2 = mkF m 0 #[.val (.ref x0), .val (.ref x1)] [] := by first | (simp [entryFrame, mkF, argsToLocals, Value.category]; done) | rfl
def Qrsc_2 (Z : State) (a1 : Addr) (ax : Addr) (ka : ClassId) (zc : Int32) (u0 : Int32) (u1 : Int32) (h0 : Heap) (n0 : Nat) (v : Option Value) (h : Heap) (L : List Loc) : Prop := ∃ (r : Addr) (kr : ClassId), (v = none) ∧ (Fr n0 L) ∧ (Keep h0 h [a1]) ∧ (Exa Z h a1 "java/lang/String") ∧ (Fld Z h a1 "java/lang/String" "value" "[B" (.ref r)) ∧ (Fld Z h a1 "java/lang/String" "coder" "B" (.int (0 : Int32))) ∧ (Arv Z h r kr .byte (2 : Int32) [(.int (own_by u0)), (.int (own_by u1))] (.int (0 : Int32))) ∧ (h0.size ≤ r)
set_option maxRecDepth 65536 in
set_option maxHeartbeats 40000000 in
theorem rsc_2 (l : Launch) (Z : State) (a0 : Array Value) (hw : ∀ d ∈ tables_1, d.before a0 Z = true) (ws : List Jvm.Cond) (a1 : Addr) (ax : Addr) (ka : ClassId) (zc : Int32) (u0 : Int32) (u1 : Int32) (h0 : Heap) (n0 : Nat) (Z0 : n0 ≤ h0.size) (pr1 : Exa Z h0 a1 oS0) (pr2 : Fld Z h0 a1 oS0 "value" "[B" .null) (pr3 : Fld Z h0 a1 oS0 "coder" "B" (.int (0 : Int32))) (pr4 : Arv Z h0 ax ka .char (2 : Int32) [(.int u0), (.int u1)] (.int (0 : Int32))) (pr5 : Sta Z h0 oS0 oS4 "Z" (.int zc)) (hzc : ¬ zc = (0 : Int32)) (hl_u0 : own_lat u0) (hl_u1 : own_lat u1) (pr6 : n0 ≤ a1) (pr7 : @Ne Nat a1 ax) :
    MetFree l oM0 (head1 (Jvm.Cond.code oM0 jdk_42_method_3_code 2 none :: ws) ({ frames := 3, cells := 1, slots := 2, locals := 52 } : Room)) (fun a U => a = #[(.ref a1), (.ref ax)] ∧ Z.Warmed39 U.vm ∧ U.heap = h0) (fun _ _ _ _ _ => True) (fun _ U o U' => ∃ v L, o = .returned v ∧ Qrsc_2 Z a1 ax ka zc u0 u1 h0 n0 v U'.heap L ∧ FrameEnd U o U' L ({ frames := 3, cells := 1, slots := 2, locals := 52 } : Room).cells ({ frames := 3, cells := 1, slots := 2, locals := 52 } : Room).slots) := by
  refine MetFree.of_bodySF (plainFor_of_name pn_6) hisR ?_
  intro p e s m args below meth c s₁ Bd hml0 hP0 hK
  obtain ⟨rfl, hZ, hh⟩ := hP0
  have hx := Bd.exec
  have hby := Bd.bytes
  have hml : c.maxLocals = 2 := hml0
  have hown : s.vm.findClass oS0 = some m.cls := findClass_of_methodNamed Bd.named
  have hnm := (name_of_methodNamed Bd.named Bd.method).1
  have X0 : Stand p l e ({ frames := 3, cells := 1, slots := 2, locals := 52 } : Room) s m #[(.ref a1), (.ref ax)] below meth c s₁ [] 0 0 := Stand.of_body Bd
  have e0 : s₁.heap = h0 := by rw [← hh, Bd.state]; rfl
  have N0 := Fr.nil n0
  refine own_fin (st' := s₁.setTop (mkF m 0 #[oR a1, oR ax] [])) (fun _ k => castTop (ef_rsc_2 m a1 ax) k) (fun P hP => ?_)
  have lt_a1 : @LT.lt Nat _ a1 h0.size := pr1.lt
  have lt_ax : @LT.lt Nat _ ax h0.size := pr4.lt
  refine ow (oT s₁ m 1 #[oR a1, oR ax] [(.ref a1)]) (fun _ k => XS.aloadN X0.here hx rfl (hb hby d6_0) rfl rfl k) ?_
  refine ow (oT s₁ m 2 #[oR a1, oR ax] [(.ref ax), (.ref a1)]) (fun _ k => XS.aloadN X0.here hx rfl (hb hby d6_1) rfl rfl k) ?_
  refine ow (oT s₁ m 3 #[oR a1, oR ax] [(.int (0 : Int32)), (.ref ax), (.ref a1)]) (fun _ k => XS.iconst X0.here hx rfl (hb hby d6_2) k) ?_
  refine ow (oT s₁ m 4 #[oR a1, oR ax] [(.ref ax), (.int (0 : Int32)), (.ref ax), (.ref a1)]) (fun _ k => XS.aloadN X0.here hx rfl (hb hby d6_3) rfl rfl k) ?_
  obtain ⟨cl1, Ar1, -, S1, M1, -, -⟩ := id pr4
  refine ow (oT s₁ m 5 #[oR a1, oR ax] [(.int (2 : Int32)), (.int (0 : Int32)), (.ref ax), (.ref a1)]) (fun t k => X0.arraylength hx (by rw [e0]; exact Ar1.1) (State.isArrayOf_alike hZ.alike Ar1.2.1) (g := (mkF m 4 #[oR a1, oR ax] [(.ref ax), (.int (0 : Int32)), (.ref ax), (.ref a1)])) rfl rfl (hb hby d6_4) t (by rw [len_of S1 M1]; exact k)) ?_
  refine ow (oT s₁ m 6 #[oR a1, oR ax] [.null, (.int (2 : Int32)), (.int (0 : Int32)), (.ref ax), (.ref a1)]) (fun _ k => XS.aconstNull X0.here hx rfl (hb hby d6_5) k) ?_
  obtain ⟨_, _, ⟨T2, LC2, kC2, nC2⟩, -, X2, ⟨Lc2, hQ2, lq2, yq2, zq2⟩, st2⟩ := X0.specialBack hx (y := oM6) rfl hown (mvT hZ (own_hw hw 31)) (mvT hZ (own_hw hw 32)) (mvT hZ (own_hw hw 33)) (by decide) (backOf (W := 0) (rsi_2 l Z a0 hw [] a1 ax ka zc u0 u1 h0 n0 (by omega) pr1 pr2 pr3 pr4 pr5 (by assumption) hl_u0 hl_u1 (by omega) (own_ne (by omega))) hZ (own_hw hw 33) (own_hw hw 2) (by decide) (by decide)) (g := (mkF m 6 #[oR a1, oR ax] [.null, (.int (2 : Int32)), (.int (0 : Int32)), (.ref ax), (.ref a1)])) rfl hml.symm (Steps.refl _) (a := a1) (argsL := [(.ref ax), (.int (0 : Int32)), (.int (2 : Int32)), .null]) (rest := []) (lenOf pd_3 rfl) rfl (Nat.le_of_eq rfl) (hb hby d6_6) (fun _ _ => ⟨rfl, e0, (by decide : 0 + 1 ≤ _), (by decide : 0 + 2 ≤ _)⟩)
  dsimp only [Pt.U, Pt.locs, Pt.cells, Pt.slots] at X2 lq2 yq2 zq2 st2 hQ2
  subst lq2 yq2 zq2
  obtain ⟨h2, e2⟩ : ∃ z, T2.heap = z := ⟨_, rfl⟩
  rw [e2] at hQ2
  obtain ⟨r_2, kr_2, rfl, Nq2, K2, g2_0, g2_1, g2_2, g2_3, g2_4⟩ := hQ2
  have sz2 : h0.size ≤ h2.size := K2.1
  have N2 := Fr.app N0 Nq2
  have lt2_1 : @LT.lt Nat _ a1 h2.size := g2_0.lt
  have lt2_2 : @LT.lt Nat _ r_2 h2.size := g2_3.lt
  refine ow (oT T2 m 9 #[oR a1, oR ax] []) (fun _ k => st2.trans k) ?_
  obtain ⟨fs, hr, hrun, hended, hW, hsame⟩ := X2.leave (v := none) (fun _ => rfl)
  refine ⟨_, _, ?_, hP _ _ hrun hended ⟨_, _, rfl, ?_, ⟨_, rfl⟩, hW, hsame.mono (by decide) (by decide)⟩⟩
  · exact X2.returnOut hx Bd.returns (hb hby d6_9) hr
  ·
   show Qrsc_2 Z a1 ax ka zc u0 u1 h0 n0 _ T2.heap _
   rw [e2]
   exact ⟨r_2, kr_2, rfl, N2, ((Keep.refl h0 [a1]).trans K2 (allS (P := fun x => x ∈ [a1] ∨ h0.size ≤ x) (Or.inl (List.mem_of_getElem? (i := 0) rfl)) all0)), g2_0, g2_1, g2_2, g2_3, (by omega)⟩
theorem ef_rcp_3 (m : MethodId) (x0 : Addr) (x1 : Int32) (x2 : Addr) (x3 : Int32) (x4 : Int32) : entryFrame m #[(.ref x0), (.int x1), (.ref x2), (.int x3), (.int x4)] 7 = mkF m 0 #[.val (.ref x0), .val (.int x1), .val (.ref x2), .val (.int x3), .val (.int x4), .unset, .unset] [] := by first | (simp [entryFrame, mkF, argsToLocals, Value.category]; done) | rfl
def Qrcp_3 (Z : State) (ax : Addr) (ka : ClassId) (ay : Addr) (kb : ClassId) (u0 : Int32) (u1 : Int32) (u2 : Int32) (h0 : Heap) (n0 : Nat) (v : Option Value) (h : Heap) (L : List Loc) : Prop := (v = some (.int (3 : Int32))) ∧ (Fr n0 L) ∧ (Keep h0 h [ay]) ∧ (Arv Z h ay kb .byte (3 : Int32) [(.int (own_by u0)), (.int (own_by u1)), (.int (own_by u2))] (.int (0 : Int32)))
set_option maxRecDepth 65536 in
set_option maxHeartbeats 40000000 in
theorem rcp_3 (l : Launch) (Z : State) (a0 : Array Value) (hw : ∀ d ∈ tables_1, d.before a0 Z = true) (ws : List Jvm.Cond) (ax : Addr) (ka : ClassId) (ay : Addr) (kb : ClassId) (u0 : Int32) (u1 : Int32) (u2 : Int32) (h0 : Heap) (n0 : Nat) (Z0 : n0 ≤ h0.size) (pr1 : Arv Z h0 ax ka .char (3 : Int32) [(.int u0), (.int u1), (.int u2)] (.int (0 : Int32))) (pr2 : Arv Z h0 ay kb .byte (3 : Int32) [(.int (0 : Int32)), (.int (0 : Int32)), (.int (0 : Int32))] (.int (0 : Int32))) (pr3 : n0 ≤ ay) (pr4 : @Ne Nat ax ay) (hl_u0 : own_lat u0) (hl_u1 : own_lat u1) (hl_u2 : own_lat u2) :
    MetFree l oM13 (head1 (Jvm.Cond.code oM13 jdk_52_method_21_code 7 (some .int) :: ws) ({ frames := 0, cells := 0, slots := 0, locals := 0 } : Room)) (fun a U => a = #[(.ref ax), (.int (0 : Int32)), (.ref ay), (.int (0 : Int32)), (.int (3 : Int32))] ∧ Z.Warmed39 U.vm ∧ U.heap = h0) (fun _ _ _ _ _ => True) (fun _ U o U' => ∃ v L, o = .returned v ∧ Qrcp_3 Z ax ka ay kb u0 u1 u2 h0 n0 v U'.heap L ∧ FrameEnd U o U' L ({ frames := 0, cells := 0, slots := 0, locals := 0 } : Room).cells ({ frames := 0, cells := 0, slots := 0, locals := 0 } : Room).slots) := by
  refine MetFree.of_bodySF (plainFor_of_name pn_9) hisR ?_
  intro p e s m args below meth c s₁ Bd hml0 hP0 hK
  obtain ⟨rfl, hZ, hh⟩ := hP0
  have hx := Bd.exec
  have hby := Bd.bytes
  have hml : c.maxLocals = 7 := hml0
  have hown : s.vm.findClass oS13 = some m.cls := findClass_of_methodNamed Bd.named
  have hnm := (name_of_methodNamed Bd.named Bd.method).1
  have X0 : Stand p l e ({ frames := 0, cells := 0, slots := 0, locals := 0 } : Room) s m #[(.ref ax), (.int (0 : Int32)), (.ref ay), (.int (0 : Int32)), (.int (3 : Int32))] below meth c s₁ [] 0 0 := Stand.of_body Bd
  have e0 : s₁.heap = h0 := by rw [← hh, Bd.state]; rfl
  have N0 := Fr.nil n0
  refine own_fin (st' := s₁.setTop (mkF m 0 #[oR ax, oi 0, oR ay, oi 0, oi 3, .unset, .unset] [])) (fun _ k => castTop (ef_rcp_3 m ax (0 : Int32) ay (0 : Int32) (3 : Int32)) k) (fun P hP => ?_)
  have lt_ax : @LT.lt Nat _ ax h0.size := pr1.lt
  have lt_ay : @LT.lt Nat _ ay h0.size := pr2.lt
  refine ow (oT s₁ m 1 #[oR ax, oi 0, oR ay, oi 0, oi 3, .unset, .unset] [(.int (0 : Int32))]) (fun _ k => XS.iconst X0.here hx rfl (hb hby d9_0) k) ?_
  refine ow (oT s₁ m 3 #[oR ax, oi 0, oR ay, oi 0, oi 3, oi 0, .unset] []) (fun _ k => XS.istore X0.here hx rfl (hb hby d9_1) rfl (l' := #[oR ax, oi 0, oR ay, oi 0, oi 3, oi 0, .unset]) rfl k) ?_
  refine ow (oT s₁ m 5 #[oR ax, oi 0, oR ay, oi 0, oi 3, oi 0, .unset] [(.int (0 : Int32))]) (fun _ k => XS.iload X0.here hx rfl (hb hby d9_3) rfl k) ?_
  refine ow (oT s₁ m 7 #[oR ax, oi 0, oR ay, oi 0, oi 3, oi 0, .unset] [(.int (3 : Int32)), (.int (0 : Int32))]) (fun _ k => XS.iload X0.here hx rfl (hb hby d9_5) rfl k) ?_
  have hc1 : (0 : Int32) < (3 : Int32) := by decide
  refine ow (oT s₁ m 10 #[oR ax, oi 0, oR ay, oi 0, oi 3, oi 0, .unset] []) (fun _ k => XS.icmpNo X0.here hx rfl (hb hby d9_7) rfl (tlt hc1).2.1 k) ?_
  refine ow (oT s₁ m 11 #[oR ax, oi 0, oR ay, oi 0, oi 3, oi 0, .unset] [(.ref ax)]) (fun _ k => XS.aloadN X0.here hx rfl (hb hby d9_10) rfl rfl k) ?_
  refine ow (oT s₁ m 12 #[oR ax, oi 0, oR ay, oi 0, oi 3, oi 0, .unset] [(.int (0 : Int32)), (.ref ax)]) (fun _ k => XS.iloadN X0.here hx rfl (hb hby d9_11) rfl k) ?_
  obtain ⟨cl2, Ar2, -, S2, M2, H2, -⟩ := id pr1
  have hin2 : ¬ ((0 : Int32) < 0 ∨ cl2.slots.size ≤ ((0 : Int32)).toNatClampNeg) := (inb_of S2 ⟨by decide, by decide⟩)
  have hat2 : cl2.slots[((0 : Int32)).toNatClampNeg]? = some (.int u0) := (H2.at hin2 rfl)
  refine ow (oT s₁ m 13 #[oR ax, oi 0, oR ay, oi 0, oi 3, oi 0, .unset] [(.int u0)]) (X0.caload hx (j := (0 : Int32)) (v := (.int u0)) (by rw [e0]; exact Ar2.1) (State.isArrayOf_alike hZ.alike Ar2.2.1) Ar2.2.2 hin2 hat2 (g := (mkF m 12 #[oR ax, oi 0, oR ay, oi 0, oi 3, oi 0, .unset] [(.int (0 : Int32)), (.ref ax)])) rfl rfl (hb hby d9_12)) ?_
  refine ow (oT s₁ m 15 #[oR ax, oi 0, oR ay, oi 0, oi 3, oi 0, oi u0] []) (fun _ k => XS.istore X0.here hx rfl (hb hby d9_13) rfl (l' := #[oR ax, oi 0, oR ay, oi 0, oi 3, oi 0, oi u0]) rfl k) ?_
  refine ow (oT s₁ m 17 #[oR ax, oi 0, oR ay, oi 0, oi 3, oi 0, oi u0] [(.int u0)]) (fun _ k => XS.iload X0.here hx rfl (hb hby d9_15) rfl k) ?_
  refine ow (oT s₁ m 20 #[oR ax, oi 0, oR ay, oi 0, oi 3, oi 0, oi u0] [(.int (255 : Int32)), (.int u0)]) (fun _ k => XS.sipush X0.here hx rfl (hb hby d9_17) k) ?_
  have hc3 : ¬ ((255 : Int32) < u0) := (own_lat_le hl_u0)
  refine ow (oT s₁ m 26 #[oR ax, oi 0, oR ay, oi 0, oi 3, oi 0, oi u0] []) (fun _ k => XS.icmpYes X0.here hx rfl (pc0 := 20) (pc' := 26) rfl (hb hby d9_20) rfl (flt hc3).2.2.2 (by decide) (by decide) k) ?_
  refine ow (oT s₁ m 27 #[oR ax, oi 0, oR ay, oi 0, oi 3, oi 0, oi u0] [(.ref ay)]) (fun _ k => XS.aloadN X0.here hx rfl (hb hby d9_26) rfl rfl k) ?_
  refine ow (oT s₁ m 28 #[oR ax, oi 0, oR ay, oi 0, oi 3, oi 0, oi u0] [(.int (0 : Int32)), (.ref ay)]) (fun _ k => XS.iloadN X0.here hx rfl (hb hby d9_27) rfl k) ?_
  refine ow (oT s₁ m 30 #[oR ax, oi 0, oR ay, oi 0, oi 3, oi 0, oi u0] [(.int u0), (.int (0 : Int32)), (.ref ay)]) (fun _ k => XS.iload X0.here hx rfl (hb hby d9_28) rfl k) ?_
  refine ow (oT s₁ m 31 #[oR ax, oi 0, oR ay, oi 0, oi 3, oi 0, oi u0] [(.int u0.toInt8.toInt32), (.int (0 : Int32)), (.ref ay)]) (fun _ k => XS.i2b X0.here hx rfl (hb hby d9_30) rfl k) ?_
  obtain ⟨cl4, Ar4, qc4, S4, M4, H4, G4⟩ := id pr2
  have hin4 : ¬ ((0 : Int32) < 0 ∨ cl4.slots.size ≤ ((0 : Int32)).toNatClampNeg) := (inb_of S4 ⟨by decide, by decide⟩)
  obtain ⟨T4, h4, X4, e4, W4, st4⟩ := stB X0 hx hZ e0 Ar4 (j := (0 : Int32)) hin4 (g := (mkF m 31 #[oR ax, oi 0, oR ay, oi 0, oi 3, oi 0, oi u0] [(.int u0.toInt8.toInt32), (.int (0 : Int32)), (.ref ay)])) rfl rfl (hb hby d9_31)
  have sz4 : h4.size = h0.size := W4.size
  have N4 := Fr.snoc X4 N0 (by omega)
  have v4 : Arv Z h4 ay kb .byte (3 : Int32) [(.int (nar .byte u0.toInt8.toInt32)), (.int (0 : Int32)), (.int (0 : Int32))] (.int (0 : Int32)) := Arv.set Ar4 qc4 S4 M4 H4 G4 (fits_nar_byte _) W4 0 rfl (Nat.le_of_ble_eq_true rfl)
  refine ow (oT T4 m 32 #[oR ax, oi 0, oR ay, oi 0, oi 3, oi 0, oi u0] []) (st4) ?_
  refine ow (oT T4 m 35 #[oR ax, oi 1, oR ay, oi 0, oi 3, oi 0, oi u0] []) (fun _ k => XS.iinc X4.here hx rfl (hb hby d9_32) rfl (l' := #[oR ax, oi 1, oR ay, oi 0, oi 3, oi 0, oi u0]) (by rw [show ((0 : Int32) + Int32.ofInt 1) = (1 : Int32) by decide]; rfl) k) ?_
  refine ow (oT T4 m 38 #[oR ax, oi 1, oR ay, oi 1, oi 3, oi 0, oi u0] []) (fun _ k => XS.iinc X4.here hx rfl (hb hby d9_35) rfl (l' := #[oR ax, oi 1, oR ay, oi 1, oi 3, oi 0, oi u0]) (by rw [show ((0 : Int32) + Int32.ofInt 1) = (1 : Int32) by decide]; rfl) k) ?_
  refine ow (oT T4 m 41 #[oR ax, oi 1, oR ay, oi 1, oi 3, oi 1, oi u0] []) (fun _ k => XS.iinc X4.here hx rfl (hb hby d9_38) rfl (l' := #[oR ax, oi 1, oR ay, oi 1, oi 3, oi 1, oi u0]) (by rw [show ((0 : Int32) + Int32.ofInt 1) = (1 : Int32) by decide]; rfl) k) ?_
  refine ow (oT T4 m 3 #[oR ax, oi 1, oR ay, oi 1, oi 3, oi 1, oi u0] []) (fun _ k => XS.goto X4.here hx rfl (pc0 := 41) (pc' := 3) rfl (hb hby d9_41) (by decide) (by decide) k) ?_
  refine ow (oT T4 m 5 #[oR ax, oi 1, oR ay, oi 1, oi 3, oi 1, oi u0] [(.int (1 : Int32))]) (fun _ k => XS.iload X4.here hx rfl (hb hby d9_3) rfl k) ?_
  refine ow (oT T4 m 7 #[oR ax, oi 1, oR ay, oi 1, oi 3, oi 1, oi u0] [(.int (3 : Int32)), (.int (1 : Int32))]) (fun _ k => XS.iload X4.here hx rfl (hb hby d9_5) rfl k) ?_
  have hc5 : (1 : Int32) < (3 : Int32) := by decide
  refine ow (oT T4 m 10 #[oR ax, oi 1, oR ay, oi 1, oi 3, oi 1, oi u0] []) (fun _ k => XS.icmpNo X4.here hx rfl (hb hby d9_7) rfl (tlt hc5).2.1 k) ?_
  refine ow (oT T4 m 11 #[oR ax, oi 1, oR ay, oi 1, oi 3, oi 1, oi u0] [(.ref ax)]) (fun _ k => XS.aloadN X4.here hx rfl (hb hby d9_10) rfl rfl k) ?_
  refine ow (oT T4 m 12 #[oR ax, oi 1, oR ay, oi 1, oi 3, oi 1, oi u0] [(.int (1 : Int32)), (.ref ax)]) (fun _ k => XS.iloadN X4.here hx rfl (hb hby d9_11) rfl k) ?_
  have c6 : Arv Z h4 ax ka .char (3 : Int32) [(.int u0), (.int u1), (.int u2)] (.int (0 : Int32)) := (pr1.other W4 (own_ne (by omega)))
  obtain ⟨cl7, Ar7, -, S7, M7, H7, -⟩ := id c6
  have hin7 : ¬ ((1 : Int32) < 0 ∨ cl7.slots.size ≤ ((1 : Int32)).toNatClampNeg) := (inb_of S7 ⟨by decide, by decide⟩)
  have hat7 : cl7.slots[((1 : Int32)).toNatClampNeg]? = some (.int u1) := (H7.at hin7 rfl)
  refine ow (oT T4 m 13 #[oR ax, oi 1, oR ay, oi 1, oi 3, oi 1, oi u0] [(.int u1)]) (X4.caload hx (j := (1 : Int32)) (v := (.int u1)) (by rw [e4]; exact Ar7.1) (State.isArrayOf_alike hZ.alike Ar7.2.1) Ar7.2.2 hin7 hat7 (g := (mkF m 12 #[oR ax, oi 1, oR ay, oi 1, oi 3, oi 1, oi u0] [(.int (1 : Int32)), (.ref ax)])) rfl rfl (hb hby d9_12)) ?_
  refine ow (oT T4 m 15 #[oR ax, oi 1, oR ay, oi 1, oi 3, oi 1, oi u1] []) (fun _ k => XS.istore X4.here hx rfl (hb hby d9_13) rfl (l' := #[oR ax, oi 1, oR ay, oi 1, oi 3, oi 1, oi u1]) rfl k) ?_
  refine ow (oT T4 m 17 #[oR ax, oi 1, oR ay, oi 1, oi 3, oi 1, oi u1] [(.int u1)]) (fun _ k => XS.iload X4.here hx rfl (hb hby d9_15) rfl k) ?_
  refine ow (oT T4 m 20 #[oR ax, oi 1, oR ay, oi 1, oi 3, oi 1, oi u1] [(.int (255 : Int32)), (.int u1)]) (fun _ k => XS.sipush X4.here hx rfl (hb hby d9_17) k) ?_
  have hc8 : ¬ ((255 : Int32) < u1) := (own_lat_le hl_u1)
  refine ow (oT T4 m 26 #[oR ax, oi 1, oR ay, oi 1, oi 3, oi 1, oi u1] []) (fun _ k => XS.icmpYes X4.here hx rfl (pc0 := 20) (pc' := 26) rfl (hb hby d9_20) rfl (flt hc8).2.2.2 (by decide) (by decide) k) ?_
  refine ow (oT T4 m 27 #[oR ax, oi 1, oR ay, oi 1, oi 3, oi 1, oi u1] [(.ref ay)]) (fun _ k => XS.aloadN X4.here hx rfl (hb hby d9_26) rfl rfl k) ?_
  refine ow (oT T4 m 28 #[oR ax, oi 1, oR ay, oi 1, oi 3, oi 1, oi u1] [(.int (1 : Int32)), (.ref ay)]) (fun _ k => XS.iloadN X4.here hx rfl (hb hby d9_27) rfl k) ?_
  refine ow (oT T4 m 30 #[oR ax, oi 1, oR ay, oi 1, oi 3, oi 1, oi u1] [(.int u1), (.int (1 : Int32)), (.ref ay)]) (fun _ k => XS.iload X4.here hx rfl (hb hby d9_28) rfl k) ?_
  refine ow (oT T4 m 31 #[oR ax, oi 1, oR ay, oi 1, oi 3, oi 1, oi u1] [(.int u1.toInt8.toInt32), (.int (1 : Int32)), (.ref ay)]) (fun _ k => XS.i2b X4.here hx rfl (hb hby d9_30) rfl k) ?_
  obtain ⟨cl9, Ar9, qc9, S9, M9, H9, G9⟩ := id v4
  have hin9 : ¬ ((1 : Int32) < 0 ∨ cl9.slots.size ≤ ((1 : Int32)).toNatClampNeg) := (inb_of S9 ⟨by decide, by decide⟩)
  obtain ⟨T9, h9, X9, e9, W9, st9⟩ := stB X4 hx hZ e4 Ar9 (j := (1 : Int32)) hin9 (g := (mkF m 31 #[oR ax, oi 1, oR ay, oi 1, oi 3, oi 1, oi u1] [(.int u1.toInt8.toInt32), (.int (1 : Int32)), (.ref ay)])) rfl rfl (hb hby d9_31)
  have sz9 : h9.size = h4.size := W9.size
  have N9 := Fr.snoc X9 N4 (by omega)
  have v9 : Arv Z h9 ay kb .byte (3 : Int32) [(.int (nar .byte u0.toInt8.toInt32)), (.int (nar .byte u1.toInt8.toInt32)), (.int (0 : Int32))] (.int (0 : Int32)) := Arv.set Ar9 qc9 S9 M9 H9 G9 (fits_nar_byte _) W9 1 rfl (Nat.le_of_ble_eq_true rfl)
  refine ow (oT T9 m 32 #[oR ax, oi 1, oR ay, oi 1, oi 3, oi 1, oi u1] []) (st9) ?_
  refine ow (oT T9 m 35 #[oR ax, oi 2, oR ay, oi 1, oi 3, oi 1, oi u1] []) (fun _ k => XS.iinc X9.here hx rfl (hb hby d9_32) rfl (l' := #[oR ax, oi 2, oR ay, oi 1, oi 3, oi 1, oi u1]) (by rw [show ((1 : Int32) + Int32.ofInt 1) = (2 : Int32) by decide]; rfl) k) ?_
  refine ow (oT T9 m 38 #[oR ax, oi 2, oR ay, oi 2, oi 3, oi 1, oi u1] []) (fun _ k => XS.iinc X9.here hx rfl (hb hby d9_35) rfl (l' := #[oR ax, oi 2, oR ay, oi 2, oi 3, oi 1, oi u1]) (by rw [show ((1 : Int32) + Int32.ofInt 1) = (2 : Int32) by decide]; rfl) k) ?_
  refine ow (oT T9 m 41 #[oR ax, oi 2, oR ay, oi 2, oi 3, oi 2, oi u1] []) (fun _ k => XS.iinc X9.here hx rfl (hb hby d9_38) rfl (l' := #[oR ax, oi 2, oR ay, oi 2, oi 3, oi 2, oi u1]) (by rw [show ((1 : Int32) + Int32.ofInt 1) = (2 : Int32) by decide]; rfl) k) ?_
  refine ow (oT T9 m 3 #[oR ax, oi 2, oR ay, oi 2, oi 3, oi 2, oi u1] []) (fun _ k => XS.goto X9.here hx rfl (pc0 := 41) (pc' := 3) rfl (hb hby d9_41) (by decide) (by decide) k) ?_
  refine ow (oT T9 m 5 #[oR ax, oi 2, oR ay, oi 2, oi 3, oi 2, oi u1] [(.int (2 : Int32))]) (fun _ k => XS.iload X9.here hx rfl (hb hby d9_3) rfl k) ?_
  refine ow (oT T9 m 7 #[oR ax, oi 2, oR ay, oi 2, oi 3, oi 2, oi u1] [(.int (3 : Int32)), (.int (2 : Int32))]) (fun _ k => XS.iload X9.here hx rfl (hb hby d9_5) rfl k) ?_
  have hc10 : (2 : Int32) < (3 : Int32) := by decide
  refine ow (oT T9 m 10 #[oR ax, oi 2, oR ay, oi 2, oi 3, oi 2, oi u1] []) (fun _ k => XS.icmpNo X9.here hx rfl (hb hby d9_7) rfl (tlt hc10).2.1 k) ?_
  refine ow (oT T9 m 11 #[oR ax, oi 2, oR ay, oi 2, oi 3, oi 2, oi u1] [(.ref ax)]) (fun _ k => XS.aloadN X9.here hx rfl (hb hby d9_10) rfl rfl k) ?_
  refine ow (oT T9 m 12 #[oR ax, oi 2, oR ay, oi 2, oi 3, oi 2, oi u1] [(.int (2 : Int32)), (.ref ax)]) (fun _ k => XS.iloadN X9.here hx rfl (hb hby d9_11) rfl k) ?_
  have c11 : Arv Z h9 ax ka .char (3 : Int32) [(.int u0), (.int u1), (.int u2)] (.int (0 : Int32)) := (c6.other W9 (own_ne (by omega)))
  obtain ⟨cl12, Ar12, -, S12, M12, H12, -⟩ := id c11
  have hin12 : ¬ ((2 : Int32) < 0 ∨ cl12.slots.size ≤ ((2 : Int32)).toNatClampNeg) := (inb_of S12 ⟨by decide, by decide⟩)
  have hat12 : cl12.slots[((2 : Int32)).toNatClampNeg]? = some (.int u2) := (H12.at hin12 rfl)
  refine ow (oT T9 m 13 #[oR ax, oi 2, oR ay, oi 2, oi 3, oi 2, oi u1] [(.int u2)]) (X9.caload hx (j := (2 : Int32)) (v := (.int u2)) (by rw [e9]; exact Ar12.1) (State.isArrayOf_alike hZ.alike Ar12.2.1) Ar12.2.2 hin12 hat12 (g := (mkF m 12 #[oR ax, oi 2, oR ay, oi 2, oi 3, oi 2, oi u1] [(.int (2 : Int32)), (.ref ax)])) rfl rfl (hb hby d9_12)) ?_
  refine ow (oT T9 m 15 #[oR ax, oi 2, oR ay, oi 2, oi 3, oi 2, oi u2] []) (fun _ k => XS.istore X9.here hx rfl (hb hby d9_13) rfl (l' := #[oR ax, oi 2, oR ay, oi 2, oi 3, oi 2, oi u2]) rfl k) ?_
  refine ow (oT T9 m 17 #[oR ax, oi 2, oR ay, oi 2, oi 3, oi 2, oi u2] [(.int u2)]) (fun _ k => XS.iload X9.here hx rfl (hb hby d9_15) rfl k) ?_
  refine ow (oT T9 m 20 #[oR ax, oi 2, oR ay, oi 2, oi 3, oi 2, oi u2] [(.int (255 : Int32)), (.int u2)]) (fun _ k => XS.sipush X9.here hx rfl (hb hby d9_17) k) ?_
  have hc13 : ¬ ((255 : Int32) < u2) := (own_lat_le hl_u2)
  refine ow (oT T9 m 26 #[oR ax, oi 2, oR ay, oi 2, oi 3, oi 2, oi u2] []) (fun _ k => XS.icmpYes X9.here hx rfl (pc0 := 20) (pc' := 26) rfl (hb hby d9_20) rfl (flt hc13).2.2.2 (by decide) (by decide) k) ?_
  refine ow (oT T9 m 27 #[oR ax, oi 2, oR ay, oi 2, oi 3, oi 2, oi u2] [(.ref ay)]) (fun _ k => XS.aloadN X9.here hx rfl (hb hby d9_26) rfl rfl k) ?_
  refine ow (oT T9 m 28 #[oR ax, oi 2, oR ay, oi 2, oi 3, oi 2, oi u2] [(.int (2 : Int32)), (.ref ay)]) (fun _ k => XS.iloadN X9.here hx rfl (hb hby d9_27) rfl k) ?_
  refine ow (oT T9 m 30 #[oR ax, oi 2, oR ay, oi 2, oi 3, oi 2, oi u2] [(.int u2), (.int (2 : Int32)), (.ref ay)]) (fun _ k => XS.iload X9.here hx rfl (hb hby d9_28) rfl k) ?_
  refine ow (oT T9 m 31 #[oR ax, oi 2, oR ay, oi 2, oi 3, oi 2, oi u2] [(.int u2.toInt8.toInt32), (.int (2 : Int32)), (.ref ay)]) (fun _ k => XS.i2b X9.here hx rfl (hb hby d9_30) rfl k) ?_
  obtain ⟨cl14, Ar14, qc14, S14, M14, H14, G14⟩ := id v9
  have hin14 : ¬ ((2 : Int32) < 0 ∨ cl14.slots.size ≤ ((2 : Int32)).toNatClampNeg) := (inb_of S14 ⟨by decide, by decide⟩)
  obtain ⟨T14, h14, X14, e14, W14, st14⟩ := stB X9 hx hZ e9 Ar14 (j := (2 : Int32)) hin14 (g := (mkF m 31 #[oR ax, oi 2, oR ay, oi 2, oi 3, oi 2, oi u2] [(.int u2.toInt8.toInt32), (.int (2 : Int32)), (.ref ay)])) rfl rfl (hb hby d9_31)
  have sz14 : h14.size = h9.size := W14.size
  have N14 := Fr.snoc X14 N9 (by omega)
  have v14 : Arv Z h14 ay kb .byte (3 : Int32) [(.int (nar .byte u0.toInt8.toInt32)), (.int (nar .byte u1.toInt8.toInt32)), (.int (nar .byte u2.toInt8.toInt32))] (.int (0 : Int32)) := Arv.set Ar14 qc14 S14 M14 H14 G14 (fits_nar_byte _) W14 2 rfl (Nat.le_of_ble_eq_true rfl)
  refine ow (oT T14 m 32 #[oR ax, oi 2, oR ay, oi 2, oi 3, oi 2, oi u2] []) (st14) ?_
  refine ow (oT T14 m 35 #[oR ax, oi 3, oR ay, oi 2, oi 3, oi 2, oi u2] []) (fun _ k => XS.iinc X14.here hx rfl (hb hby d9_32) rfl (l' := #[oR ax, oi 3, oR ay, oi 2, oi 3, oi 2, oi u2]) (by rw [show ((2 : Int32) + Int32.ofInt 1) = (3 : Int32) by decide]; rfl) k) ?_
  refine ow (oT T14 m 38 #[oR ax, oi 3, oR ay, oi 3, oi 3, oi 2, oi u2] []) (fun _ k => XS.iinc X14.here hx rfl (hb hby d9_35) rfl (l' := #[oR ax, oi 3, oR ay, oi 3, oi 3, oi 2, oi u2]) (by rw [show ((2 : Int32) + Int32.ofInt 1) = (3 : Int32) by decide]; rfl) k) ?_
  refine ow (oT T14 m 41 #[oR ax, oi 3, oR ay, oi 3, oi 3, oi 3, oi u2] []) (fun _ k => XS.iinc X14.here hx rfl (hb hby d9_38) rfl (l' := #[oR ax, oi 3, oR ay, oi 3, oi 3, oi 3, oi u2]) (by rw [show ((2 : Int32) + Int32.ofInt 1) = (3 : Int32) by decide]; rfl) k) ?_
  refine ow (oT T14 m 3 #[oR ax, oi 3, oR ay, oi 3, oi 3, oi 3, oi u2] []) (fun _ k => XS.goto X14.here hx rfl (pc0 := 41) (pc' := 3) rfl (hb hby d9_41) (by decide) (by decide) k) ?_
  refine ow (oT T14 m 5 #[oR ax, oi 3, oR ay, oi 3, oi 3, oi 3, oi u2] [(.int (3 : Int32))]) (fun _ k => XS.iload X14.here hx rfl (hb hby d9_3) rfl k) ?_
  refine ow (oT T14 m 7 #[oR ax, oi 3, oR ay, oi 3, oi 3, oi 3, oi u2] [(.int (3 : Int32)), (.int (3 : Int32))]) (fun _ k => XS.iload X14.here hx rfl (hb hby d9_5) rfl k) ?_
  have hc15 : ¬ ((3 : Int32) < (3 : Int32)) := by decide
  refine ow (oT T14 m 44 #[oR ax, oi 3, oR ay, oi 3, oi 3, oi 3, oi u2] []) (fun _ k => XS.icmpYes X14.here hx rfl (pc0 := 7) (pc' := 44) rfl (hb hby d9_7) rfl (flt hc15).2.1 (by decide) (by decide) k) ?_
  refine ow (oT T14 m 46 #[oR ax, oi 3, oR ay, oi 3, oi 3, oi 3, oi u2] [(.int (3 : Int32))]) (fun _ k => XS.iload X14.here hx rfl (hb hby d9_44) rfl k) ?_
  obtain ⟨fs, hr, hrun, hended, hW, hsame⟩ := X14.leave (v := some (.int (3 : Int32))) (fun h => by rw [Bd.returns] at h; cases h)
  refine ⟨_, _, ?_, hP _ _ hrun hended ⟨_, _, rfl, ?_, ⟨_, rfl⟩, hW, hsame.mono (by decide) (by decide)⟩⟩
  · exact retOut X14 hx Bd.returns rfl (Or.inl ⟨rfl, Or.inl rfl, _, rfl⟩) (hb hby d9_46) hr
  ·
   show Qrcp_3 Z ax ka ay kb u0 u1 u2 h0 n0 _ T14.heap _
   rw [e14]
   exact ⟨rfl, N14, ((((Keep.refl h0 [ay]).wr W4 (Or.inl (List.mem_of_getElem? (i := 0) rfl))).wr W9 (Or.inl (List.mem_of_getElem? (i := 0) rfl))).wr W14 (Or.inl (List.mem_of_getElem? (i := 0) rfl))), v14⟩
theorem ef_rcq_3 (m : MethodId) (x0 : Addr) (x1 : Int32) (x2 : Int32) : entryFrame m #[(.ref x0), (.int x1), (.int x2)] 6 = mkF m 0 #[.val (.ref x0), .val (.int x1), .val (.int x2), .unset, .unset, .unset] [] := by first | (simp [entryFrame, mkF, argsToLocals, Value.category]; done) | rfl
def Qrcq_3 (Z : State) (ax : Addr) (ka : ClassId) (u0 : Int32) (u1 : Int32) (u2 : Int32) (h0 : Heap) (n0 : Nat) (v : Option Value) (h : Heap) (L : List Loc) : Prop := ∃ (r : Addr) (kr : ClassId), (v = some (.ref r)) ∧ (Fr n0 L) ∧ (Keep h0 h []) ∧ (Arv Z h r kr .byte (3 : Int32) [(.int (own_by u0)), (.int (own_by u1)), (.int (own_by u2))] (.int (0 : Int32))) ∧ (h0.size ≤ r)
set_option maxRecDepth 65536 in
set_option maxHeartbeats 40000000 in
theorem rcq_3 (l : Launch) (Z : State) (a0 : Array Value) (hw : ∀ d ∈ tables_1, d.before a0 Z = true) (ws : List Jvm.Cond) (ax : Addr) (ka : ClassId) (u0 : Int32) (u1 : Int32) (u2 : Int32) (h0 : Heap) (n0 : Nat) (Z0 : n0 ≤ h0.size) (pr1 : Arv Z h0 ax ka .char (3 : Int32) [(.int u0), (.int u1), (.int u2)] (.int (0 : Int32))) (hl_u0 : own_lat u0) (hl_u1 : own_lat u1) (hl_u2 : own_lat u2) :
    MetFree l oM14 (head1 (Jvm.Cond.code oM14 jdk_52_method_16_code 6 (some (.array .byte)) :: ws) ({ frames := 1, cells := 1, slots := 3, locals := 18 } : Room)) (fun a U => a = #[(.ref ax), (.int (0 : Int32)), (.int (3 : Int32))] ∧ Z.Warmed39 U.vm ∧ U.heap = h0) (fun _ _ _ _ _ => True) (fun _ U o U' => ∃ v L, o = .returned v ∧ Qrcq_3 Z ax ka u0 u1 u2 h0 n0 v U'.heap L ∧ FrameEnd U o U' L ({ frames := 1, cells := 1, slots := 3, locals := 18 } : Room).cells ({ frames := 1, cells := 1, slots := 3, locals := 18 } : Room).slots) := by
  refine MetFree.of_bodySF (plainFor_of_name pn_8) hisR ?_
  intro p e s m args below meth c s₁ Bd hml0 hP0 hK
  obtain ⟨rfl, hZ, hh⟩ := hP0
  have hx := Bd.exec
  have hby := Bd.bytes
  have hml : c.maxLocals = 6 := hml0
  have hown : s.vm.findClass oS13 = some m.cls := findClass_of_methodNamed Bd.named
  have hnm := (name_of_methodNamed Bd.named Bd.method).1
  have X0 : Stand p l e ({ frames := 1, cells := 1, slots := 3, locals := 18 } : Room) s m #[(.ref ax), (.int (0 : Int32)), (.int (3 : Int32))] below meth c s₁ [] 0 0 := Stand.of_body Bd
  have e0 : s₁.heap = h0 := by rw [← hh, Bd.state]; rfl
  have N0 := Fr.nil n0
  refine own_fin (st' := s₁.setTop (mkF m 0 #[oR ax, oi 0, oi 3, .unset, .unset, .unset] [])) (fun _ k => castTop (ef_rcq_3 m ax (0 : Int32) (3 : Int32)) k) (fun P hP => ?_)
  have lt_ax : @LT.lt Nat _ ax h0.size := pr1.lt
  refine ow (oT s₁ m 1 #[oR ax, oi 0, oi 3, .unset, .unset, .unset] [(.int (3 : Int32))]) (fun _ k => XS.iloadN X0.here hx rfl (hb hby d8_0) rfl k) ?_
  obtain ⟨T1, h1, k1, X1, e1, E1, A1, st1⟩ := newP X0 hx hZ (own_hw hw 14) e0 (g := (mkF m 1 #[oR ax, oi 0, oi 3, .unset, .unset, .unset] [(.int (3 : Int32))])) rfl (hb hby d8_1) rfl (by decide) (cap := 3) (by decide) (by decide) (by decide) (by decide)
  obtain ⟨b1, g1⟩ : ∃ z, z = h0.size := ⟨_, rfl⟩
  rw [← g1] at A1 st1
  have sz1 : h0.size ≤ h1.size := E1.1
  have lt1 : @LT.lt Nat _ b1 h1.size := A1.lt
  have v1 : Arv Z h1 b1 k1 .byte (3 : Int32) [(.int (0 : Int32)), (.int (0 : Int32)), (.int (0 : Int32))] (.int (0 : Int32)) := (Arv.new A1 (by decide)).pad (pad_rep [] (.int (0 : Int32)) 3)
  refine ow (oT T1 m 3 #[oR ax, oi 0, oi 3, .unset, .unset, .unset] [(.ref b1)]) (st1) ?_
  refine ow (oT T1 m 4 #[oR ax, oi 0, oi 3, oR b1, .unset, .unset] []) (fun _ k => XS.astoreN X1.here hx rfl (hb hby d8_3) rfl rfl (l' := #[oR ax, oi 0, oi 3, oR b1, .unset, .unset]) rfl k) ?_
  refine ow (oT T1 m 5 #[oR ax, oi 0, oi 3, oR b1, .unset, .unset] [(.ref ax)]) (fun _ k => XS.aloadN X1.here hx rfl (hb hby d8_4) rfl rfl k) ?_
  refine ow (oT T1 m 6 #[oR ax, oi 0, oi 3, oR b1, .unset, .unset] [(.int (0 : Int32)), (.ref ax)]) (fun _ k => XS.iloadN X1.here hx rfl (hb hby d8_5) rfl k) ?_
  refine ow (oT T1 m 7 #[oR ax, oi 0, oi 3, oR b1, .unset, .unset] [(.ref b1), (.int (0 : Int32)), (.ref ax)]) (fun _ k => XS.aloadN X1.here hx rfl (hb hby d8_6) rfl rfl k) ?_
  refine ow (oT T1 m 8 #[oR ax, oi 0, oi 3, oR b1, .unset, .unset] [(.int (0 : Int32)), (.ref b1), (.int (0 : Int32)), (.ref ax)]) (fun _ k => XS.iconst X1.here hx rfl (hb hby d8_7) k) ?_
  refine ow (oT T1 m 9 #[oR ax, oi 0, oi 3, oR b1, .unset, .unset] [(.int (3 : Int32)), (.int (0 : Int32)), (.ref b1), (.int (0 : Int32)), (.ref ax)]) (fun _ k => XS.iloadN X1.here hx rfl (hb hby d8_8) rfl k) ?_
  have c3 : Arv Z h1 ax ka .char (3 : Int32) [(.int u0), (.int u1), (.int u2)] (.int (0 : Int32)) := (pr1.ext E1)
  obtain ⟨_, _, ⟨T2, LC2, kC2, nC2⟩, -, X2, ⟨Lc2, hQ2, lq2, yq2, zq2⟩, st2⟩ := Jvm.LawKit.callS X1 hx (y := oM13) hown (mvT hZ (own_hw hw 38)) (mvT hZ (own_hw hw 39)) (mvT hZ (own_hw hw 36)) (mvT hZ (own_hw hw 40)) (by decide) (backOf (W := 0) (rcp_3 l Z a0 hw [] ax ka b1 k1 u0 u1 u2 h1 n0 (by omega) c3 v1 (by omega) (own_ne (by omega)) hl_u0 hl_u1 hl_u2) hZ (own_hw hw 40) (own_hw hw 36) (by decide) (by decide)) (g := (mkF m 9 #[oR ax, oi 0, oi 3, oR b1, .unset, .unset] [(.int (3 : Int32)), (.int (0 : Int32)), (.ref b1), (.int (0 : Int32)), (.ref ax)])) rfl hml.symm (argsL := [(.ref ax), (.int (0 : Int32)), (.ref b1), (.int (0 : Int32)), (.int (3 : Int32))]) (rest := []) (lenOf pd_0 rfl) rfl (Nat.le_of_eq rfl) (hb hby d8_9) (fun _ _ => ⟨rfl, e1, (by decide : 1 + 0 ≤ _), (by decide : 3 + 0 ≤ _)⟩)
  dsimp only [Pt.U, Pt.locs, Pt.cells, Pt.slots] at X2 lq2 yq2 zq2 st2 hQ2
  subst lq2 yq2 zq2
  obtain ⟨h2, e2⟩ : ∃ z, T2.heap = z := ⟨_, rfl⟩
  rw [e2] at hQ2
  obtain ⟨rfl, Nq2, K2, g2_0⟩ := hQ2
  have sz2 : h1.size ≤ h2.size := K2.1
  have N2 := Fr.app N0 Nq2
  have lt2_1 : @LT.lt Nat _ b1 h2.size := g2_0.lt
  refine ow (oT T2 m 12 #[oR ax, oi 0, oi 3, oR b1, .unset, .unset] [(.int (3 : Int32))]) (fun t k => st2 t k) ?_
  refine ow (oT T2 m 14 #[oR ax, oi 0, oi 3, oR b1, oi 3, .unset] []) (fun _ k => XS.istore X2.here hx rfl (hb hby d8_12) rfl (l' := #[oR ax, oi 0, oi 3, oR b1, oi 3, .unset]) rfl k) ?_
  refine ow (oT T2 m 16 #[oR ax, oi 0, oi 3, oR b1, oi 3, .unset] [(.int (3 : Int32))]) (fun _ k => XS.iload X2.here hx rfl (hb hby d8_14) rfl k) ?_
  refine ow (oT T2 m 17 #[oR ax, oi 0, oi 3, oR b1, oi 3, .unset] [(.int (3 : Int32)), (.int (3 : Int32))]) (fun _ k => XS.iloadN X2.here hx rfl (hb hby d8_16) rfl k) ?_
  have hc4 : (3 : Int32) = (3 : Int32) := by decide
  refine ow (oT T2 m 57 #[oR ax, oi 0, oi 3, oR b1, oi 3, .unset] []) (fun _ k => XS.icmpYes X2.here hx rfl (pc0 := 17) (pc' := 57) rfl (hb hby d8_17) rfl (teq hc4).1 (by decide) (by decide) k) ?_
  refine ow (oT T2 m 58 #[oR ax, oi 0, oi 3, oR b1, oi 3, .unset] [(.ref b1)]) (fun _ k => XS.aloadN X2.here hx rfl (hb hby d8_57) rfl rfl k) ?_
  obtain ⟨fs, hr, hrun, hended, hW, hsame⟩ := X2.leave (v := some (.ref b1)) (fun h => by rw [Bd.returns] at h; cases h)
  refine ⟨_, _, ?_, hP _ _ hrun hended ⟨_, _, rfl, ?_, ⟨_, rfl⟩, hW, hsame.mono (by decide) (by decide)⟩⟩
  · exact retOut X2 hx Bd.returns rfl (Or.inr (Or.inr (Or.inr (Or.inr ⟨rfl, rfl, rfl⟩)))) (hb hby d8_58) hr
  ·
   show Qrcq_3 Z ax ka u0 u1 u2 h0 n0 _ T2.heap _
   rw [e2]
   exact ⟨b1, k1, rfl, N2, (((Keep.refl h0 []).ext E1).trans K2 (allS (P := fun x => x ∈ [] ∨ h0.size ≤ x) (Or.inr (by omega)) all0)), g2_0, (by omega)⟩
theorem ef_rcd_3 (m : MethodId) (x0 : Addr) (x1 : Int32) : entryFrame m #[(.ref x0), (.int x1)] 2 = mkF m 0 #[.val (.ref x0), .val (.int x1)] [] := by first | (simp [entryFrame, mkF, argsToLocals, Value.category]; done) | rfl
def Qrcd_3 (Z : State) (ax : Addr) (ka : ClassId) (vs : List Value) (h0 : Heap) (n0 : Nat) (v : Option Value) (h : Heap) (L : List Loc) : Prop := (v = some (.int (0 : Int32))) ∧ (Fr n0 L) ∧ (h = h0)
set_option maxRecDepth 65536 in
set_option maxHeartbeats 40000000 in
theorem rcd_3 (l : Launch) (Z : State) (a0 : Array Value) (hw : ∀ d ∈ tables_1, d.before a0 Z = true) (ws : List Jvm.Cond) (ax : Addr) (ka : ClassId) (vs : List Value) (h0 : Heap) (n0 : Nat) (Z0 : n0 ≤ h0.size) (pr1 : Arv Z h0 ax ka .byte (3 : Int32) vs (.int (0 : Int32))) :
    MetFree l oM15 (head1 (Jvm.Cond.code oM15 jdk_52_method_15_code 2 (some .byte) :: ws) ({ frames := 0, cells := 0, slots := 0, locals := 0 } : Room)) (fun a U => a = #[(.ref ax), (.int (3 : Int32))] ∧ Z.Warmed39 U.vm ∧ U.heap = h0) (fun _ _ _ _ _ => True) (fun _ U o U' => ∃ v L, o = .returned v ∧ Qrcd_3 Z ax ka vs h0 n0 v U'.heap L ∧ FrameEnd U o U' L ({ frames := 0, cells := 0, slots := 0, locals := 0 } : Room).cells ({ frames := 0, cells := 0, slots := 0, locals := 0 } : Room).slots) := by
  refine MetFree.of_bodySF (plainFor_of_name pn_10) hisR ?_
  intro p e s m args below meth c s₁ Bd hml0 hP0 hK
  obtain ⟨rfl, hZ, hh⟩ := hP0
  have hx := Bd.exec
  have hby := Bd.bytes
  have hml : c.maxLocals = 2 := hml0
  have hown : s.vm.findClass oS13 = some m.cls := findClass_of_methodNamed Bd.named
  have hnm := (name_of_methodNamed Bd.named Bd.method).1
  have X0 : Stand p l e ({ frames := 0, cells := 0, slots := 0, locals := 0 } : Room) s m #[(.ref ax), (.int (3 : Int32))] below meth c s₁ [] 0 0 := Stand.of_body Bd
  have e0 : s₁.heap = h0 := by rw [← hh, Bd.state]; rfl
  have N0 := Fr.nil n0
  refine own_fin (st' := s₁.setTop (mkF m 0 #[oR ax, oi 3] [])) (fun _ k => castTop (ef_rcd_3 m ax (3 : Int32)) k) (fun P hP => ?_)
  have lt_ax : @LT.lt Nat _ ax h0.size := pr1.lt
  refine ow (oT s₁ m 1 #[oR ax, oi 3] [(.int (3 : Int32))]) (fun _ k => XS.iloadN X0.here hx rfl (hb hby d10_0) rfl k) ?_
  refine ow (oT s₁ m 2 #[oR ax, oi 3] [(.ref ax), (.int (3 : Int32))]) (fun _ k => XS.aloadN X0.here hx rfl (hb hby d10_1) rfl rfl k) ?_
  obtain ⟨cl1, Ar1, -, S1, M1, -, -⟩ := id pr1
  refine ow (oT s₁ m 3 #[oR ax, oi 3] [(.int (3 : Int32)), (.int (3 : Int32))]) (fun t k => X0.arraylength hx (by rw [e0]; exact Ar1.1) (State.isArrayOf_alike hZ.alike Ar1.2.1) (g := (mkF m 2 #[oR ax, oi 3] [(.ref ax), (.int (3 : Int32))])) rfl rfl (hb hby d10_2) t (by rw [len_of S1 M1]; exact k)) ?_
  refine ow (oT s₁ m 4 #[oR ax, oi 3] [(.int (0 : Int32))]) (fun _ k => XS.isub X0.here hx rfl (hb hby d10_3) rfl (by rw [show ((3 : Int32) - (3 : Int32)) = (0 : Int32) by decide]; exact k)) ?_
  refine ow (oT s₁ m 6 #[oR ax, oi 3] [(.int (31 : Int32)), (.int (0 : Int32))]) (fun _ k => XS.bipush X0.here hx rfl (hb hby d10_4) k) ?_
  refine ow (oT s₁ m 7 #[oR ax, oi 3] [(.int (((0 : Int32).toUInt32 >>> ((31 : Int32) &&& 31).toUInt32).toInt32))]) (fun _ k => XS.iushr X0.here hx rfl (hb hby d10_6) rfl k) ?_
  refine ow (oT s₁ m 8 #[oR ax, oi 3] [(.int (((0 : Int32).toUInt32 >>> ((31 : Int32) &&& 31).toUInt32).toInt32).toInt8.toInt32)]) (fun _ k => XS.i2b X0.here hx rfl (hb hby d10_7) rfl k) ?_
  obtain ⟨fs, hr, hrun, hended, hW, hsame⟩ := X0.leave (v := some (.int (nar .byte (((0 : Int32).toUInt32 >>> ((31 : Int32) &&& 31).toUInt32).toInt32).toInt8.toInt32))) (fun h => by rw [Bd.returns] at h; cases h)
  refine ⟨_, _, ?_, hP _ _ hrun hended ⟨_, _, rfl, ?_, ⟨_, rfl⟩, hW, hsame.mono (by decide) (by decide)⟩⟩
  · exact retN X0 hx (t := .byte) Bd.returns (by simp) (hb hby d10_8) hr
  ·
   show Qrcd_3 Z ax ka vs h0 n0 _ s₁.heap _
   rw [e0]
   exact ⟨(congrArg (fun z => some (Value.int z)) (by decide +kernel)), N0, rfl⟩
theorem ef_rsi_3 (m : MethodId) (x0 : Addr) (x1 : Addr) (x2 : Int32) (x3 : Int32) : entryFrame m #[(.ref x0), (.ref x1), (.int x2), (.int x3), .null] 6 = mkF m 0 #[.val (.ref x0), .val (.ref x1), .val (.int x2), .val (.int x3), .val .null, .unset] [] := by first | (simp [entryFrame, mkF, argsToLocals, Value.category]; done) | rfl
def Qrsi_3 (Z : State) (a1 : Addr) (ax : Addr) (ka : ClassId) (zc : Int32) (u0 : Int32) (u1 : Int32) (u2 : Int32) (h0 : Heap) (n0 : Nat) (v : Option Value) (h : Heap) (L : List Loc) : Prop := ∃ (r : Addr) (kr : ClassId), (v = none) ∧ (Fr n0 L) ∧ (Keep h0 h [a1]) ∧ (Exa Z h a1 "java/lang/String") ∧ (Fld Z h a1 "java/lang/String" "value" "[B" (.ref r)) ∧ (Fld Z h a1 "java/lang/String" "coder" "B" (.int (0 : Int32))) ∧ (Arv Z h r kr .byte (3 : Int32) [(.int (own_by u0)), (.int (own_by u1)), (.int (own_by u2))] (.int (0 : Int32))) ∧ (h0.size ≤ r)
set_option maxRecDepth 65536 in
set_option maxHeartbeats 40000000 in
theorem rsi_3 (l : Launch) (Z : State) (a0 : Array Value) (hw : ∀ d ∈ tables_1, d.before a0 Z = true) (ws : List Jvm.Cond) (a1 : Addr) (ax : Addr) (ka : ClassId) (zc : Int32) (u0 : Int32) (u1 : Int32) (u2 : Int32) (h0 : Heap) (n0 : Nat) (Z0 : n0 ≤ h0.size) (pr1 : Exa Z h0 a1 oS0) (pr2 : Fld Z h0 a1 oS0 "value" "[B" .null) (pr3 : Fld Z h0 a1 oS0 "coder" "B" (.int (0 : Int32))) (pr4 : Arv Z h0 ax ka .char (3 : Int32) [(.int u0), (.int u1), (.int u2)] (.int (0 : Int32))) (pr5 : Sta Z h0 oS0 oS4 "Z" (.int zc)) (hzc : ¬ zc = (0 : Int32)) (hl_u0 : own_lat u0) (hl_u1 : own_lat u1) (hl_u2 : own_lat u2) (pr6 : n0 ≤ a1) (pr7 : @Ne Nat a1 ax) :
    MetFree l oM6 (head1 (Jvm.Cond.code oM6 jdk_42_method_149_code 6 none :: ws) ({ frames := 2, cells := 1, slots := 3, locals := 35 } : Room)) (fun a U => a = #[(.ref a1), (.ref ax), (.int (0 : Int32)), (.int (3 : Int32)), .null] ∧ Z.Warmed39 U.vm ∧ U.heap = h0) (fun _ _ _ _ _ => True) (fun _ U o U' => ∃ v L, o = .returned v ∧ Qrsi_3 Z a1 ax ka zc u0 u1 u2 h0 n0 v U'.heap L ∧ FrameEnd U o U' L ({ frames := 2, cells := 1, slots := 3, locals := 35 } : Room).cells ({ frames := 2, cells := 1, slots := 3, locals := 35 } : Room).slots) := by
  refine MetFree.of_bodySF (plainFor_of_name pn_7) hisR ?_
  intro p e s m args below meth c s₁ Bd hml0 hP0 hK
  obtain ⟨rfl, hZ, hh⟩ := hP0
  have hx := Bd.exec
  have hby := Bd.bytes
  have hml : c.maxLocals = 6 := hml0
  have hown : s.vm.findClass oS0 = some m.cls := findClass_of_methodNamed Bd.named
  have hnm := (name_of_methodNamed Bd.named Bd.method).1
  have X0 : Stand p l e ({ frames := 2, cells := 1, slots := 3, locals := 35 } : Room) s m #[(.ref a1), (.ref ax), (.int (0 : Int32)), (.int (3 : Int32)), .null] below meth c s₁ [] 0 0 := Stand.of_body Bd
  have e0 : s₁.heap = h0 := by rw [← hh, Bd.state]; rfl
  have N0 := Fr.nil n0
  refine own_fin (st' := s₁.setTop (mkF m 0 #[oR a1, oR ax, oi 0, oi 3, .val .null, .unset] [])) (fun _ k => castTop (ef_rsi_3 m a1 ax (0 : Int32) (3 : Int32)) k) (fun P hP => ?_)
  have lt_a1 : @LT.lt Nat _ a1 h0.size := pr1.lt
  have lt_ax : @LT.lt Nat _ ax h0.size := pr4.lt
  refine ow (oT s₁ m 1 #[oR a1, oR ax, oi 0, oi 3, .val .null, .unset] [(.ref a1)]) (fun _ k => XS.aloadN X0.here hx rfl (hb hby d7_0) rfl rfl k) ?_
  obtain ⟨T1, X1, e1, st1⟩ := initO X0 hx hZ hown (own_hw hw 19) (own_hw hw 20) (own_hw hw 21) e0 (g := (mkF m 1 #[oR a1, oR ax, oi 0, oi 3, .val .null, .unset] [(.ref a1)])) rfl (by rw [hml]; rfl) rfl (hb hby d7_1) (by decide) (W := 0) (by show 2 * 0 + _ ≤ _; exact Nat.le_of_eq rfl) (by decide)
  refine ow (oT T1 m 4 #[oR a1, oR ax, oi 0, oi 3, .val .null, .unset] []) (st1) ?_
  refine ow (oT T1 m 5 #[oR a1, oR ax, oi 0, oi 3, .val .null, .unset] [(.int (3 : Int32))]) (fun _ k => XS.iloadN X1.here hx rfl (hb hby d7_4) rfl k) ?_
  have hc2 : ¬ ((3 : Int32) = (0 : Int32)) := by decide
  refine ow (oT T1 m 27 #[oR a1, oR ax, oi 0, oi 3, .val .null, .unset] []) (fun _ k => XS.ifYes X1.here hx rfl (pc0 := 5) (pc' := 27) rfl (hb hby d7_5) rfl ((if0 _ _).trans (feq hc2).2) (by decide) (by decide) k) ?_
  obtain ⟨T3, X3, e3, st3⟩ := getS2 X1 hx hZ hown (host := "") (Or.inl (own_hw hw 4)) Via.refl e1 pr5 (g := (mkF m 27 #[oR a1, oR ax, oi 0, oi 3, .val .null, .unset] [])) rfl (hb hby d7_27)
  refine ow (oT T3 m 30 #[oR a1, oR ax, oi 0, oi 3, .val .null, .unset] [(.int zc)]) (st3) ?_
  have hc4 : ¬ (zc = (0 : Int32)) := hzc
  refine ow (oT T3 m 33 #[oR a1, oR ax, oi 0, oi 3, .val .null, .unset] []) (fun _ k => XS.ifNo X3.here hx rfl (hb hby d7_30) rfl ((if0 _ _).trans (feq hc4).1) k) ?_
  refine ow (oT T3 m 34 #[oR a1, oR ax, oi 0, oi 3, .val .null, .unset] [(.ref ax)]) (fun _ k => XS.aloadN X3.here hx rfl (hb hby d7_33) rfl rfl k) ?_
  refine ow (oT T3 m 35 #[oR a1, oR ax, oi 0, oi 3, .val .null, .unset] [(.int (0 : Int32)), (.ref ax)]) (fun _ k => XS.iloadN X3.here hx rfl (hb hby d7_34) rfl k) ?_
  refine ow (oT T3 m 36 #[oR a1, oR ax, oi 0, oi 3, .val .null, .unset] [(.int (3 : Int32)), (.int (0 : Int32)), (.ref ax)]) (fun _ k => XS.iloadN X3.here hx rfl (hb hby d7_35) rfl k) ?_
  obtain ⟨_, _, ⟨T5, LC5, kC5, nC5⟩, -, X5, ⟨Lc5, hQ5, lq5, yq5, zq5⟩, st5⟩ := Jvm.LawKit.callS X3 hx (y := oM14) hown (mvT hZ (own_hw hw 34)) (mvT hZ (own_hw hw 35)) (mvT hZ (own_hw hw 36)) (mvT hZ (own_hw hw 37)) (by decide) (backOf (W := 0) (rcq_3 l Z a0 hw [] ax ka u0 u1 u2 h0 n0 (by omega) pr4 hl_u0 hl_u1 hl_u2) hZ (own_hw hw 37) (own_hw hw 36) (by decide) (by decide)) (g := (mkF m 36 #[oR a1, oR ax, oi 0, oi 3, .val .null, .unset] [(.int (3 : Int32)), (.int (0 : Int32)), (.ref ax)])) rfl hml.symm (argsL := [(.ref ax), (.int (0 : Int32)), (.int (3 : Int32))]) (rest := []) (lenOf pd_1 rfl) rfl (Nat.le_of_eq rfl) (hb hby d7_36) (fun _ _ => ⟨rfl, e3, (by decide : 0 + 1 ≤ _), (by decide : 0 + 3 ≤ _)⟩)
  dsimp only [Pt.U, Pt.locs, Pt.cells, Pt.slots] at X5 lq5 yq5 zq5 st5 hQ5
  subst lq5 yq5 zq5
  obtain ⟨h5, e5⟩ : ∃ z, T5.heap = z := ⟨_, rfl⟩
  rw [e5] at hQ5
  obtain ⟨r_5, kr_5, rfl, Nq5, K5, g5_0, g5_1⟩ := hQ5
  have sz5 : h0.size ≤ h5.size := K5.1
  have N5 := Fr.app N0 Nq5
  have lt5_1 : @LT.lt Nat _ r_5 h5.size := g5_0.lt
  refine ow (oT T5 m 39 #[oR a1, oR ax, oi 0, oi 3, .val .null, .unset] [(.ref r_5)]) (fun t k => st5 t k) ?_
  refine ow (oT T5 m 41 #[oR a1, oR ax, oi 0, oi 3, .val .null, oR r_5] []) (fun _ k => XS.astore X5.here hx rfl (hb hby d7_39) rfl rfl (l' := #[oR a1, oR ax, oi 0, oi 3, .val .null, oR r_5]) rfl k) ?_
  refine ow (oT T5 m 42 #[oR a1, oR ax, oi 0, oi 3, .val .null, oR r_5] [(.ref a1)]) (fun _ k => XS.aloadN X5.here hx rfl (hb hby d7_41) rfl rfl k) ?_
  refine ow (oT T5 m 44 #[oR a1, oR ax, oi 0, oi 3, .val .null, oR r_5] [(.ref r_5), (.ref a1)]) (fun _ k => XS.aload X5.here hx rfl (hb hby d7_42) rfl rfl k) ?_
  refine ow (oT T5 m 45 #[oR a1, oR ax, oi 0, oi 3, .val .null, oR r_5] [(.int (3 : Int32)), (.ref r_5), (.ref a1)]) (fun _ k => XS.iloadN X5.here hx rfl (hb hby d7_44) rfl k) ?_
  obtain ⟨_, _, ⟨T6, LC6, kC6, nC6⟩, -, X6, ⟨Lc6, hQ6, lq6, yq6, zq6⟩, st6⟩ := Jvm.LawKit.callS X5 hx (y := oM15) hown (mvT hZ (own_hw hw 41)) (mvT hZ (own_hw hw 42)) (mvT hZ (own_hw hw 36)) (mvT hZ (own_hw hw 43)) (by decide) (backOf (W := 1) (rcd_3 l Z a0 hw [] r_5 kr_5 [(.int (own_by u0)), (.int (own_by u1)), (.int (own_by u2))] h5 n0 (by omega) g5_0) hZ (own_hw hw 43) (own_hw hw 36) (by decide) (by decide)) (g := (mkF m 45 #[oR a1, oR ax, oi 0, oi 3, .val .null, oR r_5] [(.int (3 : Int32)), (.ref r_5), (.ref a1)])) rfl hml.symm (argsL := [(.ref r_5), (.int (3 : Int32))]) (rest := [(.ref a1)]) (lenOf pd_2 rfl) rfl (Nat.le_of_eq rfl) (hb hby d7_45) (fun _ _ => ⟨rfl, e5, (by decide : 1 + 0 ≤ _), (by decide : 3 + 0 ≤ _)⟩)
  dsimp only [Pt.U, Pt.locs, Pt.cells, Pt.slots] at X6 lq6 yq6 zq6 st6 hQ6
  subst lq6 yq6 zq6
  obtain ⟨rfl, Nq6, eq6⟩ := hQ6
  have N6 := Fr.app N5 Nq6
  refine ow (oT T6 m 48 #[oR a1, oR ax, oi 0, oi 3, .val .null, oR r_5] [(.int (0 : Int32)), (.ref a1)]) (fun t k => st6 t k) ?_
  have c7 : Fld Z h5 a1 oS0 "coder" "B" (.int (0 : Int32)) := (pr3.keep K5 nin0)
  have c8 : Exa Z h5 a1 oS0 := (pr1.keep K5)
  obtain ⟨T9, h9, X9, e9, W9, st9⟩ := putFN X6 hx hZ hown (own_hw hw 24) Via.refl eq6 c7 c8 (Or.inr ⟨(own_hw hw 25), rfl, hnm⟩) (own_hw hw 10) (ty := .byte) (v' := (.int (0 : Int32))) (by decide) rfl rfl (g := (mkF m 48 #[oR a1, oR ax, oi 0, oi 3, .val .null, oR r_5] [(.int (0 : Int32)), (.ref a1)])) rfl rfl (hb hby d7_48)
  have sz9 : h9.size = h5.size := W9.size
  have N9 := Fr.snoc X9 N6 (by omega)
  have f9 : Fld Z h9 a1 oS0 "coder" "B" (.int (0 : Int32)) := c7.same W9
  refine ow (oT T9 m 51 #[oR a1, oR ax, oi 0, oi 3, .val .null, oR r_5] []) (st9) ?_
  refine ow (oT T9 m 52 #[oR a1, oR ax, oi 0, oi 3, .val .null, oR r_5] [(.ref a1)]) (fun _ k => XS.aloadN X9.here hx rfl (hb hby d7_51) rfl rfl k) ?_
  refine ow (oT T9 m 54 #[oR a1, oR ax, oi 0, oi 3, .val .null, oR r_5] [(.ref r_5), (.ref a1)]) (fun _ k => XS.aload X9.here hx rfl (hb hby d7_52) rfl rfl k) ?_
  have c10 : Fld Z h9 a1 oS0 "value" "[B" .null := ((pr2.keep K5 nin0).other W9 (Or.inr (slot_ne (Or.inr (own_hw hw 23)) (Or.inr (own_hw hw 25)) (by decide) (t := (.array .byte)) (t' := .byte) (by decide) (by decide))))
  have c11 : Exa Z h9 a1 oS0 := (c8.wr W9)
  obtain ⟨T12, h12, X12, e12, W12, st12⟩ := putF X9 hx hZ hown (host := "") (Or.inl (own_hw hw 22)) Via.refl e9 c10 c11 (Or.inr ⟨(own_hw hw 23), rfl, hnm⟩) (own_hw hw 10) (ty := (.array .byte)) (by decide) rfl rfl (g := (mkF m 54 #[oR a1, oR ax, oi 0, oi 3, .val .null, oR r_5] [(.ref r_5), (.ref a1)])) rfl rfl (hb hby d7_54)
  have sz12 : h12.size = h9.size := W12.size
  have N12 := Fr.snoc X12 N9 (by omega)
  have f12 : Fld Z h12 a1 oS0 "value" "[B" (.ref r_5) := c10.same W12
  refine ow (oT T12 m 57 #[oR a1, oR ax, oi 0, oi 3, .val .null, oR r_5] []) (st12) ?_
  obtain ⟨fs, hr, hrun, hended, hW, hsame⟩ := X12.leave (v := none) (fun _ => rfl)
  refine ⟨_, _, ?_, hP _ _ hrun hended ⟨_, _, rfl, ?_, ⟨_, rfl⟩, hW, hsame.mono (by decide) (by decide)⟩⟩
  · exact X12.returnOut hx Bd.returns (hb hby d7_57) hr
  ·
   show Qrsi_3 Z a1 ax ka zc u0 u1 u2 h0 n0 _ T12.heap _
   have c14 : Exa Z h12 a1 oS0 := (c11.wr W12)
   have c15 : Fld Z h12 a1 oS0 "coder" "B" (.int (0 : Int32)) := (f9.other W12 (Or.inr (slot_ne (Or.inr (own_hw hw 25)) (Or.inr (own_hw hw 23)) (by decide) (t := .byte) (t' := (.array .byte)) (by decide) (by decide))))
   have c16 : Arv Z h12 r_5 kr_5 .byte (3 : Int32) [(.int (own_by u0)), (.int (own_by u1)), (.int (own_by u2))] (.int (0 : Int32)) := ((g5_0.other W9 (own_ne (by omega))).other W12 (own_ne (by omega)))
   rw [e12]
   exact ⟨r_5, kr_5, rfl, N12, ((((Keep.refl h0 [a1]).trans K5 all0).wr W9 (Or.inl (List.mem_of_getElem? (i := 0) rfl))).wr W12 (Or.inl (List.mem_of_getElem? (i := 0) rfl))), c14, f12, c15, c16, (by omega)⟩
theorem ef_rsc_3 (m : MethodId) (x0 : Addr) (x1 : Addr) : entryFrame m #[(.ref x0), (.ref x1)] 2 = mkF m 0 #[.val (.ref x0), .val (.ref x1)] [] := by first | (simp [entryFrame, mkF, argsToLocals, Value.category]; done) | rfl
def Qrsc_3 (Z : State) (a1 : Addr) (ax : Addr) (ka : ClassId) (zc : Int32) (u0 : Int32) (u1 : Int32) (u2 : Int32) (h0 : Heap) (n0 : Nat) (v : Option Value) (h : Heap) (L : List Loc) : Prop := ∃ (r : Addr) (kr : ClassId), (v = none) ∧ (Fr n0 L) ∧ (Keep h0 h [a1]) ∧ (Exa Z h a1 "java/lang/String") ∧ (Fld Z h a1 "java/lang/String" "value" "[B" (.ref r)) ∧ (Fld Z h a1 "java/lang/String" "coder" "B" (.int (0 : Int32))) ∧ (Arv Z h r kr .byte (3 : Int32) [(.int (own_by u0)), (.int (own_by u1)), (.int (own_by u2))] (.int (0 : Int32))) ∧ (h0.size ≤ r)
set_option maxRecDepth 65536 in
set_option maxHeartbeats 40000000 in
theorem rsc_3 (l : Launch) (Z : State) (a0 : Array Value) (hw : ∀ d ∈ tables_1, d.before a0 Z = true) (ws : List Jvm.Cond) (a1 : Addr) (ax : Addr) (ka : ClassId) (zc : Int32) (u0 : Int32) (u1 : Int32) (u2 : Int32) (h0 : Heap) (n0 : Nat) (Z0 : n0 ≤ h0.size) (pr1 : Exa Z h0 a1 oS0) (pr2 : Fld Z h0 a1 oS0 "value" "[B" .null) (pr3 : Fld Z h0 a1 oS0 "coder" "B" (.int (0 : Int32))) (pr4 : Arv Z h0 ax ka .char (3 : Int32) [(.int u0), (.int u1), (.int u2)] (.int (0 : Int32))) (pr5 : Sta Z h0 oS0 oS4 "Z" (.int zc)) (hzc : ¬ zc = (0 : Int32)) (hl_u0 : own_lat u0) (hl_u1 : own_lat u1) (hl_u2 : own_lat u2) (pr6 : n0 ≤ a1) (pr7 : @Ne Nat a1 ax) :
    MetFree l oM0 (head1 (Jvm.Cond.code oM0 jdk_42_method_3_code 2 none :: ws) ({ frames := 3, cells := 1, slots := 3, locals := 52 } : Room)) (fun a U => a = #[(.ref a1), (.ref ax)] ∧ Z.Warmed39 U.vm ∧ U.heap = h0) (fun _ _ _ _ _ => True) (fun _ U o U' => ∃ v L, o = .returned v ∧ Qrsc_3 Z a1 ax ka zc u0 u1 u2 h0 n0 v U'.heap L ∧ FrameEnd U o U' L ({ frames := 3, cells := 1, slots := 3, locals := 52 } : Room).cells ({ frames := 3, cells := 1, slots := 3, locals := 52 } : Room).slots) := by
  refine MetFree.of_bodySF (plainFor_of_name pn_6) hisR ?_
  intro p e s m args below meth c s₁ Bd hml0 hP0 hK
  obtain ⟨rfl, hZ, hh⟩ := hP0
  have hx := Bd.exec
  have hby := Bd.bytes
  have hml : c.maxLocals = 2 := hml0
  have hown : s.vm.findClass oS0 = some m.cls := findClass_of_methodNamed Bd.named
  have hnm := (name_of_methodNamed Bd.named Bd.method).1
  have X0 : Stand p l e ({ frames := 3, cells := 1, slots := 3, locals := 52 } : Room) s m #[(.ref a1), (.ref ax)] below meth c s₁ [] 0 0 := Stand.of_body Bd
  have e0 : s₁.heap = h0 := by rw [← hh, Bd.state]; rfl
  have N0 := Fr.nil n0
  refine own_fin (st' := s₁.setTop (mkF m 0 #[oR a1, oR ax] [])) (fun _ k => castTop (ef_rsc_3 m a1 ax) k) (fun P hP => ?_)
  have lt_a1 : @LT.lt Nat _ a1 h0.size := pr1.lt
  have lt_ax : @LT.lt Nat _ ax h0.size := pr4.lt
  refine ow (oT s₁ m 1 #[oR a1, oR ax] [(.ref a1)]) (fun _ k => XS.aloadN X0.here hx rfl (hb hby d6_0) rfl rfl k) ?_
  refine ow (oT s₁ m 2 #[oR a1, oR ax] [(.ref ax), (.ref a1)]) (fun _ k => XS.aloadN X0.here hx rfl (hb hby d6_1) rfl rfl k) ?_
  refine ow (oT s₁ m 3 #[oR a1, oR ax] [(.int (0 : Int32)), (.ref ax), (.ref a1)]) (fun _ k => XS.iconst X0.here hx rfl (hb hby d6_2) k) ?_
  refine ow (oT s₁ m 4 #[oR a1, oR ax] [(.ref ax), (.int (0 : Int32)), (.ref ax), (.ref a1)]) (fun _ k => XS.aloadN X0.here hx rfl (hb hby d6_3) rfl rfl k) ?_
  obtain ⟨cl1, Ar1, -, S1, M1, -, -⟩ := id pr4
  refine ow (oT s₁ m 5 #[oR a1, oR ax] [(.int (3 : Int32)), (.int (0 : Int32)), (.ref ax), (.ref a1)]) (fun t k => X0.arraylength hx (by rw [e0]; exact Ar1.1) (State.isArrayOf_alike hZ.alike Ar1.2.1) (g := (mkF m 4 #[oR a1, oR ax] [(.ref ax), (.int (0 : Int32)), (.ref ax), (.ref a1)])) rfl rfl (hb hby d6_4) t (by rw [len_of S1 M1]; exact k)) ?_
  refine ow (oT s₁ m 6 #[oR a1, oR ax] [.null, (.int (3 : Int32)), (.int (0 : Int32)), (.ref ax), (.ref a1)]) (fun _ k => XS.aconstNull X0.here hx rfl (hb hby d6_5) k) ?_
  obtain ⟨_, _, ⟨T2, LC2, kC2, nC2⟩, -, X2, ⟨Lc2, hQ2, lq2, yq2, zq2⟩, st2⟩ := X0.specialBack hx (y := oM6) rfl hown (mvT hZ (own_hw hw 31)) (mvT hZ (own_hw hw 32)) (mvT hZ (own_hw hw 33)) (by decide) (backOf (W := 0) (rsi_3 l Z a0 hw [] a1 ax ka zc u0 u1 u2 h0 n0 (by omega) pr1 pr2 pr3 pr4 pr5 (by assumption) hl_u0 hl_u1 hl_u2 (by omega) (own_ne (by omega))) hZ (own_hw hw 33) (own_hw hw 2) (by decide) (by decide)) (g := (mkF m 6 #[oR a1, oR ax] [.null, (.int (3 : Int32)), (.int (0 : Int32)), (.ref ax), (.ref a1)])) rfl hml.symm (Steps.refl _) (a := a1) (argsL := [(.ref ax), (.int (0 : Int32)), (.int (3 : Int32)), .null]) (rest := []) (lenOf pd_3 rfl) rfl (Nat.le_of_eq rfl) (hb hby d6_6) (fun _ _ => ⟨rfl, e0, (by decide : 0 + 1 ≤ _), (by decide : 0 + 3 ≤ _)⟩)
  dsimp only [Pt.U, Pt.locs, Pt.cells, Pt.slots] at X2 lq2 yq2 zq2 st2 hQ2
  subst lq2 yq2 zq2
  obtain ⟨h2, e2⟩ : ∃ z, T2.heap = z := ⟨_, rfl⟩
  rw [e2] at hQ2
  obtain ⟨r_2, kr_2, rfl, Nq2, K2, g2_0, g2_1, g2_2, g2_3, g2_4⟩ := hQ2
  have sz2 : h0.size ≤ h2.size := K2.1
  have N2 := Fr.app N0 Nq2
  have lt2_1 : @LT.lt Nat _ a1 h2.size := g2_0.lt
  have lt2_2 : @LT.lt Nat _ r_2 h2.size := g2_3.lt
  refine ow (oT T2 m 9 #[oR a1, oR ax] []) (fun _ k => st2.trans k) ?_
  obtain ⟨fs, hr, hrun, hended, hW, hsame⟩ := X2.leave (v := none) (fun _ => rfl)
  refine ⟨_, _, ?_, hP _ _ hrun hended ⟨_, _, rfl, ?_, ⟨_, rfl⟩, hW, hsame.mono (by decide) (by decide)⟩⟩
  · exact X2.returnOut hx Bd.returns (hb hby d6_9) hr
  ·
   show Qrsc_3 Z a1 ax ka zc u0 u1 u2 h0 n0 _ T2.heap _
   rw [e2]
   exact ⟨r_2, kr_2, rfl, N2, ((Keep.refl h0 [a1]).trans K2 (allS (P := fun x => x ∈ [a1] ∨ h0.size ≤ x) (Or.inl (List.mem_of_getElem? (i := 0) rfl)) all0)), g2_0, g2_1, g2_2, g2_3, (by omega)⟩
theorem own_wS {a0 : Array Value} {Z : State} (hw : ∀ d ∈ tables_1, d.before a0 Z = true) : ∀ a ∈ Bundle.stringAtoms, a.before a0 Z = true := by
  intro a h
  simp only [Bundle.stringAtoms, List.mem_cons, List.not_mem_nil, or_false] at h
  rcases h with rfl | rfl | rfl | rfl | rfl | rfl | rfl
  · exact (own_hw hw 2)
  · exact (own_hw hw 10)
  · exact (own_hw hw 14)
  · exact (own_hw hw 23)
  · exact (own_hw hw 25)
  · exact (own_hw hw 217)
  · exact (own_hw hw 218)
theorem d7_8 : decode jdk_42_method_149_code 8 = .ok (.aload_n 0, 1) := by decide +kernel
theorem d7_9 : decode jdk_42_method_149_code 9 = .ok (.ldc 7, 2) := by decide +kernel
theorem d7_11 : decode jdk_42_method_149_code 11 = .ok (.getfield 9, 3) := by decide +kernel
theorem d7_14 : decode jdk_42_method_149_code 14 = .ok (.putfield 9, 3) := by decide +kernel
theorem d7_17 : decode jdk_42_method_149_code 17 = .ok (.aload_n 0, 1) := by decide +kernel
theorem d7_18 : decode jdk_42_method_149_code 18 = .ok (.ldc 7, 2) := by decide +kernel
theorem d7_20 : decode jdk_42_method_149_code 20 = .ok (.getfield 15, 3) := by decide +kernel
theorem d7_23 : decode jdk_42_method_149_code 23 = .ok (.putfield 15, 3) := by decide +kernel
theorem d7_26 : decode jdk_42_method_149_code 26 = .ok (.return_, 1) := by decide +kernel
theorem ef_rsi_0 (m : MethodId) (x0 : Addr) (x1 : Addr) (x2 : Int32) (x3 : Int32) : entryFrame m #[(.ref x0), (.ref x1), (.int x2), (.int x3), .null] 6 = mkF m 0 #[.val (.ref x0), .val (.ref x1), .val (.int x2), .val (.int x3), .val .null, .unset] [] := by first | (simp [entryFrame, mkF, argsToLocals, Value.category]; done) | rfl
def Qrsi_0 (Z : State) (a1 : Addr) (ax : Addr) (h0 : Heap) (n0 : Nat) (v : Option Value) (h : Heap) (L : List Loc) : Prop := ∃ (r : Addr) (kr : ClassId), (v = none) ∧ (Fr n0 L) ∧ (Keep h0 h [a1]) ∧ (Exa Z h a1 "java/lang/String") ∧ (Fld Z h a1 "java/lang/String" "value" "[B" (.ref r)) ∧ (Fld Z h a1 "java/lang/String" "coder" "B" (.int (0 : Int32))) ∧ (Arv Z h r kr .byte (0 : Int32) [] (.int (0 : Int32)))
set_option maxRecDepth 65536 in
set_option maxHeartbeats 40000000 in
theorem rsi_0 (l : Launch) (Z : State) (a0 : Array Value) (hw : ∀ d ∈ tables_1, d.before a0 Z = true) (ws : List Jvm.Cond) (a1 : Addr) (ax : Addr) (h0 : Heap) (n0 : Nat) (Z0 : n0 ≤ h0.size) (pr1 : Exa Z h0 a1 oS0) (pr2 : Fld Z h0 a1 oS0 "value" "[B" .null) (pr3 : Fld Z h0 a1 oS0 "coder" "B" (.int (0 : Int32))) (pr4 : n0 ≤ a1) :
    MetFree l oM6 (head1 (Jvm.Cond.code oM6 jdk_42_method_149_code 6 none :: ws) ({ frames := 1, cells := 2, slots := 4, locals := 12 } : Room)) (fun a U => a = #[(.ref a1), (.ref ax), (.int (0 : Int32)), (.int (0 : Int32)), .null] ∧ Z.Warmed39 U.vm ∧ U.heap = h0 ∧ CHv Z own_EL U.vm h0) (fun _ _ _ _ _ => True) (fun _ U o U' => ∃ v L, o = .returned v ∧ Qrsi_0 Z a1 ax h0 n0 v U'.heap L ∧ CHr Z own_EL U.vm U.heap U'.vm U'.heap ∧ ReturnedEndW U o U' L ({ frames := 1, cells := 2, slots := 4, locals := 12 } : Room).cells ({ frames := 1, cells := 2, slots := 4, locals := 12 } : Room).slots) := by
  refine MetFree.of_bodySF (plainFor_of_name pn_7) hisR ?_
  intro p e s m args below meth c s₁ Bd hml0 hP0 hK
  obtain ⟨rfl, hZ, hh, hC0⟩ := hP0
  have hx := Bd.exec
  have hby := Bd.bytes
  have hml : c.maxLocals = 6 := hml0
  have hown : s.vm.findClass oS0 = some m.cls := findClass_of_methodNamed Bd.named
  have hnm := (name_of_methodNamed Bd.named Bd.method).1
  have X0 : Stand p l e ({ frames := 1, cells := 2, slots := 4, locals := 12 } : Room) (s.setVm s.vm) m #[(.ref a1), (.ref ax), (.int (0 : Int32)), (.int (0 : Int32)), .null] below meth c s₁ [] 0 0 := Stand.of_body Bd
  have hS0 : s.Since s.vm h0.size := (State.WarmedH.refl s).since _
  have hZ : Z.Warmed39 (s.setVm s.vm).vm := hZ
  have hown : (s.setVm s.vm).vm.findClass oS0 = some m.cls := hown
  have e0 : s₁.heap = h0 := by rw [← hh, Bd.state]; rfl
  have N0 := Fr.nil n0
  refine own_fin (st' := s₁.setTop (mkF m 0 #[oR a1, oR ax, oi 0, oi 0, .val .null, .unset] [])) (fun _ k => castTop (ef_rsi_0 m a1 ax (0 : Int32) (0 : Int32)) k) (fun P hP => ?_)
  have hEL : EW Z a0 own_EL := own_ew hw
  have A0 : CHr Z own_EL s.vm h0 s.vm h0 := CHr.refl hC0
  have sf_a1 : Safe Z own_EL s.vm h0 a1 := own_safe_null hZ.alike pr1 pr2
  have lt_a1 : @LT.lt Nat _ a1 h0.size := pr1.lt
  refine ow (oT s₁ m 1 #[oR a1, oR ax, oi 0, oi 0, .val .null, .unset] [(.ref a1)]) (fun _ k => XS.aloadN X0.here hx rfl (hb hby d7_0) rfl rfl k) ?_
  obtain ⟨T1, X1, e1, st1⟩ := initO X0 hx hZ hown (own_hw hw 19) (own_hw hw 20) (own_hw hw 21) e0 (g := (mkF m 1 #[oR a1, oR ax, oi 0, oi 0, .val .null, .unset] [(.ref a1)])) rfl (by rw [hml]; rfl) rfl (hb hby d7_1) (by decide) (W := 0) (by show 2 * 0 + _ ≤ _; exact Nat.le_of_eq rfl) (by decide)
  refine ow (oT T1 m 4 #[oR a1, oR ax, oi 0, oi 0, .val .null, .unset] []) (st1) ?_
  refine ow (oT T1 m 5 #[oR a1, oR ax, oi 0, oi 0, .val .null, .unset] [(.int (0 : Int32))]) (fun _ k => XS.iloadN X1.here hx rfl (hb hby d7_4) rfl k) ?_
  have hc2 : (0 : Int32) = (0 : Int32) := by decide
  refine ow (oT T1 m 8 #[oR a1, oR ax, oi 0, oi 0, .val .null, .unset] []) (fun _ k => XS.ifNo X1.here hx rfl (hb hby d7_5) rfl ((if0 _ _).trans (teq hc2).2) k) ?_
  refine ow (oT T1 m 9 #[oR a1, oR ax, oi 0, oi 0, .val .null, .unset] [(.ref a1)]) (fun _ k => XS.aloadN X1.here hx rfl (hb hby d7_8) rfl rfl k) ?_
  obtain ⟨b3, T3, h3, k3, bv3, kv3, X3, e3, E3, hS3, hk3, hZ, hown, xa3, xb3, xc3, xd3, -, -, CR3, LT3, SF3, st3⟩ := ldcCH X1 hx hZ hown (own_hw hw 216) (own_wS hw) e1 hS0 (by omega) hEL (by decide) A0.1 (vs := []) (z := (0 : Int32)) ⟨by decide, rfl⟩ (by decide) rfl (g := (mkF m 9 #[oR a1, oR ax, oi 0, oi 0, .val .null, .unset] [(.ref a1)])) rfl (hb hby d7_9) (n := 0) (by decide +kernel) (by decide) (by decide) (by decide)
  have sz3 : h0.size ≤ h3.size := E3.1
  have lta3 : @LT.lt Nat _ b3 h3.size := xa3.lt
  have ltb3 : @LT.lt Nat _ bv3 h3.size := xd3.lt
  have AA4 := A0.trans CR3
  have sf5 := CHr.safe CR3 (show @LT.lt Nat _ a1 h0.size by omega) sf_a1
  have nsa3_a1 : @Ne Nat a1 b3 := (SF3 _ sf5).1
  have nsb3_a1 : @Ne Nat a1 bv3 := (SF3 _ sf5).2
  refine ow (oT T3 m 11 #[oR a1, oR ax, oi 0, oi 0, .val .null, .unset] [(.ref b3), (.ref a1)]) (st3) ?_
  obtain ⟨T6, X6, e6, st6⟩ := getF X3 hx hZ hown (host := "") (Or.inl (own_hw hw 22)) Via.refl e3 xc3 (g := (mkF m 11 #[oR a1, oR ax, oi 0, oi 0, .val .null, .unset] [(.ref b3), (.ref a1)])) rfl rfl (hb hby d7_11)
  refine ow (oT T6 m 14 #[oR a1, oR ax, oi 0, oi 0, .val .null, .unset] [(.ref bv3), (.ref a1)]) (st6) ?_
  have c7 : Fld Z h3 a1 oS0 "value" "[B" .null := (pr2.ext E3)
  have c8 : Exa Z h3 a1 oS0 := (pr1.ext E3)
  obtain ⟨T9, h9, X9, e9, W9, st9⟩ := putF X6 hx hZ hown (host := "") (Or.inl (own_hw hw 22)) Via.refl e6 c7 c8 (Or.inr ⟨(own_hw hw 23), rfl, hnm⟩) (own_hw hw 10) (ty := (.array .byte)) (by decide) rfl rfl (g := (mkF m 14 #[oR a1, oR ax, oi 0, oi 0, .val .null, .unset] [(.ref bv3), (.ref a1)])) rfl rfl (hb hby d7_14)
  have sz9 : h9.size = h3.size := W9.size
  have N9 := Fr.snoc X9 N0 (by omega)
  have f9 : Fld Z h9 a1 oS0 "value" "[B" (.ref bv3) := c7.same W9
  refine ow (oT T9 m 17 #[oR a1, oR ax, oi 0, oi 0, .val .null, .unset] []) (st9) ?_
  refine ow (oT T9 m 18 #[oR a1, oR ax, oi 0, oi 0, .val .null, .unset] [(.ref a1)]) (fun _ k => XS.aloadN X9.here hx rfl (hb hby d7_17) rfl rfl k) ?_
  refine ow (oT T9 m 20 #[oR a1, oR ax, oi 0, oi 0, .val .null, .unset] [(.ref b3), (.ref a1)]) (ldcAgain X9 hx hZ hown (own_hw hw 216) LT3 (g := (mkF m 18 #[oR a1, oR ax, oi 0, oi 0, .val .null, .unset] [(.ref a1)])) rfl (hb hby d7_18)) ?_
  have c11 : Fld Z h9 b3 oS0 "coder" "B" (.int (0 : Int32)) := (xb3.other W9 (Or.inl (own_ne (by omega))))
  obtain ⟨T12, X12, e12, st12⟩ := getF X9 hx hZ hown (host := "") (Or.inl (own_hw hw 24)) Via.refl e9 c11 (g := (mkF m 20 #[oR a1, oR ax, oi 0, oi 0, .val .null, .unset] [(.ref b3), (.ref a1)])) rfl rfl (hb hby d7_20)
  refine ow (oT T12 m 23 #[oR a1, oR ax, oi 0, oi 0, .val .null, .unset] [(.int (0 : Int32)), (.ref a1)]) (st12) ?_
  have c13 : Fld Z h9 a1 oS0 "coder" "B" (.int (0 : Int32)) := ((pr3.ext E3).other W9 (Or.inr (slot_ne (Or.inr (own_hw hw 25)) (Or.inr (own_hw hw 23)) (by decide) (t := .byte) (t' := (.array .byte)) (by decide) (by decide))))
  have c14 : Exa Z h9 a1 oS0 := (c8.wr W9)
  obtain ⟨T15, h15, X15, e15, W15, st15⟩ := putFN X12 hx hZ hown (own_hw hw 24) Via.refl e12 c13 c14 (Or.inr ⟨(own_hw hw 25), rfl, hnm⟩) (own_hw hw 10) (ty := .byte) (v' := (.int (0 : Int32))) (by decide) rfl rfl (g := (mkF m 23 #[oR a1, oR ax, oi 0, oi 0, .val .null, .unset] [(.int (0 : Int32)), (.ref a1)])) rfl rfl (hb hby d7_23)
  have sz15 : h15.size = h9.size := W15.size
  have N15 := Fr.snoc X15 N9 (by omega)
  have f15 : Fld Z h15 a1 oS0 "coder" "B" (.int (0 : Int32)) := c13.same W15
  refine ow (oT T15 m 26 #[oR a1, oR ax, oi 0, oi 0, .val .null, .unset] []) (st15) ?_
  have KA17 : Keep h3 h15 [a1] := (((Keep.refl h3 [a1]).wr W9 (Or.inl (List.mem_of_getElem? (i := 0) rfl))).wr W15 (Or.inl (List.mem_of_getElem? (i := 0) rfl)))
  have AS17 := CHr.keep (EL := own_EL) KA17 (allS (P := fun x => Safe Z own_EL _ h3 x) sf5 all0) AA4.1
  have AA18 := AA4.trans AS17
  have sf19 := CHr.safe AS17 (show @LT.lt Nat _ a1 h3.size by omega) sf5
  obtain ⟨fs, hr, hrun, hended, hR1, hR2, hR3, hR4⟩ := X15.leaveW hS3 (by rw [e15]; omega) (v := none) (fun _ => rfl)
  refine ⟨_, _, ?_, hP _ _ hrun hended ⟨_, _, rfl, ?_, (by rw [hh]; show CHr Z own_EL s.vm h0 T15.vm T15.heap; rw [e15]; exact AA18.trans (CHv.at X15 hZ hEL AA18.1)), hR1, hR2, hR3, hR4.mono (by decide) (by decide)⟩⟩
  · exact X15.returnOut hx Bd.returns (hb hby d7_26) hr
  ·
   show Qrsi_0 Z a1 ax h0 n0 _ T15.heap _
   have c20 : Exa Z h15 a1 oS0 := (c14.wr W15)
   have c21 : Fld Z h15 a1 oS0 "value" "[B" (.ref bv3) := (f9.other W15 (Or.inr (slot_ne (Or.inr (own_hw hw 23)) (Or.inr (own_hw hw 25)) (by decide) (t := (.array .byte)) (t' := .byte) (by decide) (by decide))))
   have c22 : Arv Z h15 bv3 kv3 .byte (0 : Int32) [] (.int (0 : Int32)) := ((xd3.other W9 (own_ne (by omega))).other W15 (own_ne (by omega)))
   rw [e15]
   exact ⟨bv3, kv3, rfl, N15, ((((Keep.refl h0 [a1]).ext E3).wr W9 (Or.inl (List.mem_of_getElem? (i := 0) rfl))).wr W15 (Or.inl (List.mem_of_getElem? (i := 0) rfl))), c20, c21, f15, c22⟩
theorem ef_rsc_0 (m : MethodId) (x0 : Addr) (x1 : Addr) : entryFrame m #[(.ref x0), (.ref x1)] 2 = mkF m 0 #[.val (.ref x0), .val (.ref x1)] [] := by first | (simp [entryFrame, mkF, argsToLocals, Value.category]; done) | rfl
def Qrsc_0 (Z : State) (a1 : Addr) (ax : Addr) (ka : ClassId) (h0 : Heap) (n0 : Nat) (v : Option Value) (h : Heap) (L : List Loc) : Prop := ∃ (r : Addr) (kr : ClassId), (v = none) ∧ (Fr n0 L) ∧ (Keep h0 h [a1]) ∧ (Exa Z h a1 "java/lang/String") ∧ (Fld Z h a1 "java/lang/String" "value" "[B" (.ref r)) ∧ (Fld Z h a1 "java/lang/String" "coder" "B" (.int (0 : Int32))) ∧ (Arv Z h r kr .byte (0 : Int32) [] (.int (0 : Int32)))
set_option maxRecDepth 65536 in
set_option maxHeartbeats 40000000 in
theorem rsc_0 (l : Launch) (Z : State) (a0 : Array Value) (hw : ∀ d ∈ tables_1, d.before a0 Z = true) (ws : List Jvm.Cond) (a1 : Addr) (ax : Addr) (ka : ClassId) (h0 : Heap) (n0 : Nat) (Z0 : n0 ≤ h0.size) (pr1 : Exa Z h0 a1 oS0) (pr2 : Fld Z h0 a1 oS0 "value" "[B" .null) (pr3 : Fld Z h0 a1 oS0 "coder" "B" (.int (0 : Int32))) (pr4 : Arv Z h0 ax ka .char (0 : Int32) [] (.int (0 : Int32))) (pr5 : n0 ≤ a1) :
    MetFree l oM0 (head1 (Jvm.Cond.code oM0 jdk_42_method_3_code 2 none :: ws) ({ frames := 2, cells := 2, slots := 4, locals := 29 } : Room)) (fun a U => a = #[(.ref a1), (.ref ax)] ∧ Z.Warmed39 U.vm ∧ U.heap = h0 ∧ CHv Z own_EL U.vm h0) (fun _ _ _ _ _ => True) (fun _ U o U' => ∃ v L, o = .returned v ∧ Qrsc_0 Z a1 ax ka h0 n0 v U'.heap L ∧ CHr Z own_EL U.vm U.heap U'.vm U'.heap ∧ ReturnedEndW U o U' L ({ frames := 2, cells := 2, slots := 4, locals := 29 } : Room).cells ({ frames := 2, cells := 2, slots := 4, locals := 29 } : Room).slots) := by
  refine MetFree.of_bodySF (plainFor_of_name pn_6) hisR ?_
  intro p e s m args below meth c s₁ Bd hml0 hP0 hK
  obtain ⟨rfl, hZ, hh, hC0⟩ := hP0
  have hx := Bd.exec
  have hby := Bd.bytes
  have hml : c.maxLocals = 2 := hml0
  have hown : s.vm.findClass oS0 = some m.cls := findClass_of_methodNamed Bd.named
  have hnm := (name_of_methodNamed Bd.named Bd.method).1
  have X0 : Stand p l e ({ frames := 2, cells := 2, slots := 4, locals := 29 } : Room) (s.setVm s.vm) m #[(.ref a1), (.ref ax)] below meth c s₁ [] 0 0 := Stand.of_body Bd
  have hS0 : s.Since s.vm h0.size := (State.WarmedH.refl s).since _
  have hZ : Z.Warmed39 (s.setVm s.vm).vm := hZ
  have hown : (s.setVm s.vm).vm.findClass oS0 = some m.cls := hown
  have e0 : s₁.heap = h0 := by rw [← hh, Bd.state]; rfl
  have N0 := Fr.nil n0
  refine own_fin (st' := s₁.setTop (mkF m 0 #[oR a1, oR ax] [])) (fun _ k => castTop (ef_rsc_0 m a1 ax) k) (fun P hP => ?_)
  have hEL : EW Z a0 own_EL := own_ew hw
  have A0 : CHr Z own_EL s.vm h0 s.vm h0 := CHr.refl hC0
  have sf_a1 : Safe Z own_EL s.vm h0 a1 := own_safe_null hZ.alike pr1 pr2
  have lt_a1 : @LT.lt Nat _ a1 h0.size := pr1.lt
  have lt_ax : @LT.lt Nat _ ax h0.size := pr4.lt
  refine ow (oT s₁ m 1 #[oR a1, oR ax] [(.ref a1)]) (fun _ k => XS.aloadN X0.here hx rfl (hb hby d6_0) rfl rfl k) ?_
  refine ow (oT s₁ m 2 #[oR a1, oR ax] [(.ref ax), (.ref a1)]) (fun _ k => XS.aloadN X0.here hx rfl (hb hby d6_1) rfl rfl k) ?_
  refine ow (oT s₁ m 3 #[oR a1, oR ax] [(.int (0 : Int32)), (.ref ax), (.ref a1)]) (fun _ k => XS.iconst X0.here hx rfl (hb hby d6_2) k) ?_
  refine ow (oT s₁ m 4 #[oR a1, oR ax] [(.ref ax), (.int (0 : Int32)), (.ref ax), (.ref a1)]) (fun _ k => XS.aloadN X0.here hx rfl (hb hby d6_3) rfl rfl k) ?_
  obtain ⟨cl1, Ar1, -, S1, M1, -, -⟩ := id pr4
  refine ow (oT s₁ m 5 #[oR a1, oR ax] [(.int (0 : Int32)), (.int (0 : Int32)), (.ref ax), (.ref a1)]) (fun t k => X0.arraylength hx (by rw [e0]; exact Ar1.1) (State.isArrayOf_alike hZ.alike Ar1.2.1) (g := (mkF m 4 #[oR a1, oR ax] [(.ref ax), (.int (0 : Int32)), (.ref ax), (.ref a1)])) rfl rfl (hb hby d6_4) t (by rw [len_of S1 M1]; exact k)) ?_
  refine ow (oT s₁ m 6 #[oR a1, oR ax] [.null, (.int (0 : Int32)), (.int (0 : Int32)), (.ref ax), (.ref a1)]) (fun _ k => XS.aconstNull X0.here hx rfl (hb hby d6_5) k) ?_
  obtain ⟨_, _, ⟨T2, LC2, kC2, nC2⟩, -, X2, hS2, hg2, ⟨Lc2, hQ2, lq2, yq2, zq2, CR2⟩, st2⟩ := X0.specialBackS hx (y := oM6) rfl hown (mvT hZ (own_hw hw 31)) (mvT hZ (own_hw hw 32)) (mvT hZ (own_hw hw 33)) (by decide) (backOfSH (W := 0) (rsi_0 l Z a0 hw [] a1 ax h0 n0 (by omega) pr1 pr2 pr3 (by omega)) hZ (own_hw hw 33) (own_hw hw 2) (by decide) (by decide) hEL A0.1) (g := (mkF m 6 #[oR a1, oR ax] [.null, (.int (0 : Int32)), (.int (0 : Int32)), (.ref ax), (.ref a1)])) rfl hml.symm (Steps.refl _) (a := a1) (argsL := [(.ref ax), (.int (0 : Int32)), (.int (0 : Int32)), .null]) (rest := []) (lenOf pd_3 rfl) rfl (Nat.le_of_eq rfl) (hb hby d6_6) (fun _ _ => ⟨rfl, e0, (by decide : 0 + 2 ≤ _), (by decide : 0 + 4 ≤ _)⟩)
  dsimp only [Pt.U, Pt.locs, Pt.cells, Pt.slots] at X2 lq2 yq2 zq2 st2 hQ2
  subst lq2 yq2 zq2
  dsimp only [Pt.U, Pt.locs, Pt.cells, Pt.slots] at hS2 hg2 CR2
  obtain ⟨X2, hS2, hZ, hown⟩ := rebS hS0 (by rw [e0]; omega) X2 hS2 hg2 hZ hown
  obtain ⟨h2, e2⟩ : ∃ z, T2.heap = z := ⟨_, rfl⟩
  rw [e2] at hQ2 hS2
  obtain ⟨r_2, kr_2, rfl, Nq2, K2, g2_0, g2_1, g2_2, g2_3⟩ := hQ2
  have sz2 : h0.size ≤ h2.size := K2.1
  rw [e2] at CR2
  have AA3 := A0.trans CR2
  have sf4 := CHr.safe CR2 (show @LT.lt Nat _ a1 h0.size by omega) sf_a1
  have N2 := Fr.app N0 Nq2
  have lt2_1 : @LT.lt Nat _ a1 h2.size := g2_0.lt
  have lt2_2 : @LT.lt Nat _ r_2 h2.size := g2_3.lt
  have ap5 : @Ne Nat a1 r_2 := own_ne_oa (own_hw hw 10) g2_0 g2_3
  refine ow (oT T2 m 9 #[oR a1, oR ax] []) (fun _ k => st2.trans k) ?_
  obtain ⟨fs, hr, hrun, hended, hR1, hR2, hR3, hR4⟩ := X2.leaveW hS2 (by rw [e2]; omega) (v := none) (fun _ => rfl)
  refine ⟨_, _, ?_, hP _ _ hrun hended ⟨_, _, rfl, ?_, (by rw [hh]; show CHr Z own_EL s.vm h0 T2.vm T2.heap; rw [e2]; exact AA3.trans (CHv.at X2 hZ hEL AA3.1)), hR1, hR2, hR3, hR4.mono (by decide) (by decide)⟩⟩
  · exact X2.returnOut hx Bd.returns (hb hby d6_9) hr
  ·
   show Qrsc_0 Z a1 ax ka h0 n0 _ T2.heap _
   rw [e2]
   exact ⟨r_2, kr_2, rfl, N2, ((Keep.refl h0 [a1]).trans K2 (allS (P := fun x => x ∈ [a1] ∨ h0.size ≤ x) (Or.inl (List.mem_of_getElem? (i := 0) rfl)) all0)), g2_0, g2_1, g2_2, g2_3⟩
theorem d26_0 : decode jdk_43_method_13_code 0 = .ok (.aload_n 0, 1) := by decide +kernel
theorem d26_1 : decode jdk_43_method_13_code 1 = .ok (.arraylength, 1) := by decide +kernel
theorem d26_2 : decode jdk_43_method_13_code 2 = .ok (.aload_n 1, 1) := by decide +kernel
theorem d26_3 : decode jdk_43_method_13_code 3 = .ok (.arraylength, 1) := by decide +kernel
theorem d26_4 : decode jdk_43_method_13_code 4 = .ok (.if_icmp .ne 30, 3) := by decide +kernel
theorem d26_7 : decode jdk_43_method_13_code 7 = .ok (.iconst 0, 1) := by decide +kernel
theorem d26_8 : decode jdk_43_method_13_code 8 = .ok (.istore_n 2, 1) := by decide +kernel
theorem d26_9 : decode jdk_43_method_13_code 9 = .ok (.iload_n 2, 1) := by decide +kernel
theorem d26_10 : decode jdk_43_method_13_code 10 = .ok (.aload_n 0, 1) := by decide +kernel
theorem d26_11 : decode jdk_43_method_13_code 11 = .ok (.arraylength, 1) := by decide +kernel
theorem d26_12 : decode jdk_43_method_13_code 12 = .ok (.if_icmp .ge 20, 3) := by decide +kernel
theorem d26_32 : decode jdk_43_method_13_code 32 = .ok (.iconst 1, 1) := by decide +kernel
theorem d26_33 : decode jdk_43_method_13_code 33 = .ok (.ireturn, 1) := by decide +kernel
theorem pn_26 : plainName "java/lang/StringLatin1" = true := by first | (simp [plainName, overriddenIn]; done) | decide +kernel
theorem ef_rle_0 (m : MethodId) (x0 : Addr) (x1 : Addr) : entryFrame m #[(.ref x0), (.ref x1)] 3 = mkF m 0 #[.val (.ref x0), .val (.ref x1), .unset] [] := by first | (simp [entryFrame, mkF, argsToLocals, Value.category]; done) | rfl
def Qrle_0 (Z : State) (ax : Addr) (ka : ClassId) (ay : Addr) (kb : ClassId) (h0 : Heap) (n0 : Nat) (v : Option Value) (h : Heap) (L : List Loc) : Prop := (v = some (.int (1 : Int32))) ∧ (Fr n0 L) ∧ (h = h0)
set_option maxRecDepth 65536 in
set_option maxHeartbeats 40000000 in
theorem rle_0 (l : Launch) (Z : State) (a0 : Array Value) (hw : ∀ d ∈ tables_1, d.before a0 Z = true) (ws : List Jvm.Cond) (ax : Addr) (ka : ClassId) (ay : Addr) (kb : ClassId) (h0 : Heap) (n0 : Nat) (Z0 : n0 ≤ h0.size) (pr1 : Arv Z h0 ax ka .byte (0 : Int32) [] (.int (0 : Int32))) (pr2 : Arv Z h0 ay kb .byte (0 : Int32) [] (.int (0 : Int32))) :
    MetFree l oM7 (head1 (Jvm.Cond.code oM7 jdk_43_method_13_code 3 (some .boolean) :: ws) ({ frames := 0, cells := 0, slots := 0, locals := 0 } : Room)) (fun a U => a = #[(.ref ax), (.ref ay)] ∧ Z.Warmed39 U.vm ∧ U.heap = h0) (fun _ _ _ _ _ => True) (fun _ U o U' => ∃ v L, o = .returned v ∧ Qrle_0 Z ax ka ay kb h0 n0 v U'.heap L ∧ FrameEnd U o U' L ({ frames := 0, cells := 0, slots := 0, locals := 0 } : Room).cells ({ frames := 0, cells := 0, slots := 0, locals := 0 } : Room).slots) := by
  refine MetFree.of_bodySF (plainFor_of_name pn_26) hisR ?_
  intro p e s m args below meth c s₁ Bd hml0 hP0 hK
  obtain ⟨rfl, hZ, hh⟩ := hP0
  have hx := Bd.exec
  have hby := Bd.bytes
  have hml : c.maxLocals = 3 := hml0
  have hown : s.vm.findClass oS16 = some m.cls := findClass_of_methodNamed Bd.named
  have hnm := (name_of_methodNamed Bd.named Bd.method).1
  have X0 : Stand p l e ({ frames := 0, cells := 0, slots := 0, locals := 0 } : Room) s m #[(.ref ax), (.ref ay)] below meth c s₁ [] 0 0 := Stand.of_body Bd
  have e0 : s₁.heap = h0 := by rw [← hh, Bd.state]; rfl
  have N0 := Fr.nil n0
  refine own_fin (st' := s₁.setTop (mkF m 0 #[oR ax, oR ay, .unset] [])) (fun _ k => castTop (ef_rle_0 m ax ay) k) (fun P hP => ?_)
  have lt_ax : @LT.lt Nat _ ax h0.size := pr1.lt
  have lt_ay : @LT.lt Nat _ ay h0.size := pr2.lt
  refine ow (oT s₁ m 1 #[oR ax, oR ay, .unset] [(.ref ax)]) (fun _ k => XS.aloadN X0.here hx rfl (hb hby d26_0) rfl rfl k) ?_
  obtain ⟨cl1, Ar1, -, S1, M1, -, -⟩ := id pr1
  refine ow (oT s₁ m 2 #[oR ax, oR ay, .unset] [(.int (0 : Int32))]) (fun t k => X0.arraylength hx (by rw [e0]; exact Ar1.1) (State.isArrayOf_alike hZ.alike Ar1.2.1) (g := (mkF m 1 #[oR ax, oR ay, .unset] [(.ref ax)])) rfl rfl (hb hby d26_1) t (by rw [len_of S1 M1]; exact k)) ?_
  refine ow (oT s₁ m 3 #[oR ax, oR ay, .unset] [(.ref ay), (.int (0 : Int32))]) (fun _ k => XS.aloadN X0.here hx rfl (hb hby d26_2) rfl rfl k) ?_
  obtain ⟨cl2, Ar2, -, S2, M2, -, -⟩ := id pr2
  refine ow (oT s₁ m 4 #[oR ax, oR ay, .unset] [(.int (0 : Int32)), (.int (0 : Int32))]) (fun t k => X0.arraylength hx (by rw [e0]; exact Ar2.1) (State.isArrayOf_alike hZ.alike Ar2.2.1) (g := (mkF m 3 #[oR ax, oR ay, .unset] [(.ref ay), (.int (0 : Int32))])) rfl rfl (hb hby d26_3) t (by rw [len_of S2 M2]; exact k)) ?_
  have hc3 : (0 : Int32) = (0 : Int32) := by decide
  refine ow (oT s₁ m 7 #[oR ax, oR ay, .unset] []) (fun _ k => XS.icmpNo X0.here hx rfl (hb hby d26_4) rfl (teq hc3).2 k) ?_
  refine ow (oT s₁ m 8 #[oR ax, oR ay, .unset] [(.int (0 : Int32))]) (fun _ k => XS.iconst X0.here hx rfl (hb hby d26_7) k) ?_
  refine ow (oT s₁ m 9 #[oR ax, oR ay, oi 0] []) (fun _ k => XS.istoreN X0.here hx rfl (hb hby d26_8) rfl (l' := #[oR ax, oR ay, oi 0]) rfl k) ?_
  refine ow (oT s₁ m 10 #[oR ax, oR ay, oi 0] [(.int (0 : Int32))]) (fun _ k => XS.iloadN X0.here hx rfl (hb hby d26_9) rfl k) ?_
  refine ow (oT s₁ m 11 #[oR ax, oR ay, oi 0] [(.ref ax), (.int (0 : Int32))]) (fun _ k => XS.aloadN X0.here hx rfl (hb hby d26_10) rfl rfl k) ?_
  obtain ⟨cl4, Ar4, -, S4, M4, -, -⟩ := id pr1
  refine ow (oT s₁ m 12 #[oR ax, oR ay, oi 0] [(.int (0 : Int32)), (.int (0 : Int32))]) (fun t k => X0.arraylength hx (by rw [e0]; exact Ar4.1) (State.isArrayOf_alike hZ.alike Ar4.2.1) (g := (mkF m 11 #[oR ax, oR ay, oi 0] [(.ref ax), (.int (0 : Int32))])) rfl rfl (hb hby d26_11) t (by rw [len_of S4 M4]; exact k)) ?_
  have hc5 : ¬ ((0 : Int32) < (0 : Int32)) := by decide
  refine ow (oT s₁ m 32 #[oR ax, oR ay, oi 0] []) (fun _ k => XS.icmpYes X0.here hx rfl (pc0 := 12) (pc' := 32) rfl (hb hby d26_12) rfl (flt hc5).2.1 (by decide) (by decide) k) ?_
  refine ow (oT s₁ m 33 #[oR ax, oR ay, oi 0] [(.int (1 : Int32))]) (fun _ k => XS.iconst X0.here hx rfl (hb hby d26_32) k) ?_
  obtain ⟨fs, hr, hrun, hended, hW, hsame⟩ := X0.leave (v := some (.int (1 : Int32))) (fun h => by rw [Bd.returns] at h; cases h)
  refine ⟨_, _, ?_, hP _ _ hrun hended ⟨_, _, rfl, ?_, ⟨_, rfl⟩, hW, hsame.mono (by decide) (by decide)⟩⟩
  · exact retN X0 hx (t := .boolean) Bd.returns (by simp) (hb hby d26_33) hr
  ·
   show Qrle_0 Z ax ka ay kb h0 n0 _ s₁.heap _
   rw [e0]
   exact ⟨rfl, N0, rfl⟩
theorem d26_15 : decode jdk_43_method_13_code 15 = .ok (.aload_n 0, 1) := by decide +kernel
theorem d26_16 : decode jdk_43_method_13_code 16 = .ok (.iload_n 2, 1) := by decide +kernel
theorem d26_17 : decode jdk_43_method_13_code 17 = .ok (.baload, 1) := by decide +kernel
theorem d26_18 : decode jdk_43_method_13_code 18 = .ok (.aload_n 1, 1) := by decide +kernel
theorem d26_19 : decode jdk_43_method_13_code 19 = .ok (.iload_n 2, 1) := by decide +kernel
theorem d26_20 : decode jdk_43_method_13_code 20 = .ok (.baload, 1) := by decide +kernel
theorem d26_21 : decode jdk_43_method_13_code 21 = .ok (.if_icmp .eq 5, 3) := by decide +kernel
theorem d26_26 : decode jdk_43_method_13_code 26 = .ok (.iinc 2 1, 3) := by decide +kernel
theorem d26_29 : decode jdk_43_method_13_code 29 = .ok (.goto (-20), 3) := by decide +kernel
theorem ef_rle_1 (m : MethodId) (x0 : Addr) (x1 : Addr) : entryFrame m #[(.ref x0), (.ref x1)] 3 = mkF m 0 #[.val (.ref x0), .val (.ref x1), .unset] [] := by first | (simp [entryFrame, mkF, argsToLocals, Value.category]; done) | rfl
def Qrle_1 (Z : State) (ax : Addr) (ka : ClassId) (ay : Addr) (kb : ClassId) (w0 : Int32) (h0 : Heap) (n0 : Nat) (v : Option Value) (h : Heap) (L : List Loc) : Prop := (v = some (.int (1 : Int32))) ∧ (Fr n0 L) ∧ (h = h0)
set_option maxRecDepth 65536 in
set_option maxHeartbeats 40000000 in
theorem rle_1 (l : Launch) (Z : State) (a0 : Array Value) (hw : ∀ d ∈ tables_1, d.before a0 Z = true) (ws : List Jvm.Cond) (ax : Addr) (ka : ClassId) (ay : Addr) (kb : ClassId) (w0 : Int32) (h0 : Heap) (n0 : Nat) (Z0 : n0 ≤ h0.size) (pr1 : Arv Z h0 ax ka .byte (1 : Int32) [(.int w0)] (.int (0 : Int32))) (pr2 : Arv Z h0 ay kb .byte (1 : Int32) [(.int w0)] (.int (0 : Int32))) :
    MetFree l oM7 (head1 (Jvm.Cond.code oM7 jdk_43_method_13_code 3 (some .boolean) :: ws) ({ frames := 0, cells := 0, slots := 0, locals := 0 } : Room)) (fun a U => a = #[(.ref ax), (.ref ay)] ∧ Z.Warmed39 U.vm ∧ U.heap = h0) (fun _ _ _ _ _ => True) (fun _ U o U' => ∃ v L, o = .returned v ∧ Qrle_1 Z ax ka ay kb w0 h0 n0 v U'.heap L ∧ FrameEnd U o U' L ({ frames := 0, cells := 0, slots := 0, locals := 0 } : Room).cells ({ frames := 0, cells := 0, slots := 0, locals := 0 } : Room).slots) := by
  refine MetFree.of_bodySF (plainFor_of_name pn_26) hisR ?_
  intro p e s m args below meth c s₁ Bd hml0 hP0 hK
  obtain ⟨rfl, hZ, hh⟩ := hP0
  have hx := Bd.exec
  have hby := Bd.bytes
  have hml : c.maxLocals = 3 := hml0
  have hown : s.vm.findClass oS16 = some m.cls := findClass_of_methodNamed Bd.named
  have hnm := (name_of_methodNamed Bd.named Bd.method).1
  have X0 : Stand p l e ({ frames := 0, cells := 0, slots := 0, locals := 0 } : Room) s m #[(.ref ax), (.ref ay)] below meth c s₁ [] 0 0 := Stand.of_body Bd
  have e0 : s₁.heap = h0 := by rw [← hh, Bd.state]; rfl
  have N0 := Fr.nil n0
  refine own_fin (st' := s₁.setTop (mkF m 0 #[oR ax, oR ay, .unset] [])) (fun _ k => castTop (ef_rle_1 m ax ay) k) (fun P hP => ?_)
  have lt_ax : @LT.lt Nat _ ax h0.size := pr1.lt
  have lt_ay : @LT.lt Nat _ ay h0.size := pr2.lt
  refine ow (oT s₁ m 1 #[oR ax, oR ay, .unset] [(.ref ax)]) (fun _ k => XS.aloadN X0.here hx rfl (hb hby d26_0) rfl rfl k) ?_
  obtain ⟨cl1, Ar1, -, S1, M1, -, -⟩ := id pr1
  refine ow (oT s₁ m 2 #[oR ax, oR ay, .unset] [(.int (1 : Int32))]) (fun t k => X0.arraylength hx (by rw [e0]; exact Ar1.1) (State.isArrayOf_alike hZ.alike Ar1.2.1) (g := (mkF m 1 #[oR ax, oR ay, .unset] [(.ref ax)])) rfl rfl (hb hby d26_1) t (by rw [len_of S1 M1]; exact k)) ?_
  refine ow (oT s₁ m 3 #[oR ax, oR ay, .unset] [(.ref ay), (.int (1 : Int32))]) (fun _ k => XS.aloadN X0.here hx rfl (hb hby d26_2) rfl rfl k) ?_
  obtain ⟨cl2, Ar2, -, S2, M2, -, -⟩ := id pr2
  refine ow (oT s₁ m 4 #[oR ax, oR ay, .unset] [(.int (1 : Int32)), (.int (1 : Int32))]) (fun t k => X0.arraylength hx (by rw [e0]; exact Ar2.1) (State.isArrayOf_alike hZ.alike Ar2.2.1) (g := (mkF m 3 #[oR ax, oR ay, .unset] [(.ref ay), (.int (1 : Int32))])) rfl rfl (hb hby d26_3) t (by rw [len_of S2 M2]; exact k)) ?_
  have hc3 : (1 : Int32) = (1 : Int32) := by decide
  refine ow (oT s₁ m 7 #[oR ax, oR ay, .unset] []) (fun _ k => XS.icmpNo X0.here hx rfl (hb hby d26_4) rfl (teq hc3).2 k) ?_
  refine ow (oT s₁ m 8 #[oR ax, oR ay, .unset] [(.int (0 : Int32))]) (fun _ k => XS.iconst X0.here hx rfl (hb hby d26_7) k) ?_
  refine ow (oT s₁ m 9 #[oR ax, oR ay, oi 0] []) (fun _ k => XS.istoreN X0.here hx rfl (hb hby d26_8) rfl (l' := #[oR ax, oR ay, oi 0]) rfl k) ?_
  refine ow (oT s₁ m 10 #[oR ax, oR ay, oi 0] [(.int (0 : Int32))]) (fun _ k => XS.iloadN X0.here hx rfl (hb hby d26_9) rfl k) ?_
  refine ow (oT s₁ m 11 #[oR ax, oR ay, oi 0] [(.ref ax), (.int (0 : Int32))]) (fun _ k => XS.aloadN X0.here hx rfl (hb hby d26_10) rfl rfl k) ?_
  obtain ⟨cl4, Ar4, -, S4, M4, -, -⟩ := id pr1
  refine ow (oT s₁ m 12 #[oR ax, oR ay, oi 0] [(.int (1 : Int32)), (.int (0 : Int32))]) (fun t k => X0.arraylength hx (by rw [e0]; exact Ar4.1) (State.isArrayOf_alike hZ.alike Ar4.2.1) (g := (mkF m 11 #[oR ax, oR ay, oi 0] [(.ref ax), (.int (0 : Int32))])) rfl rfl (hb hby d26_11) t (by rw [len_of S4 M4]; exact k)) ?_
  have hc5 : (0 : Int32) < (1 : Int32) := by decide
  refine ow (oT s₁ m 15 #[oR ax, oR ay, oi 0] []) (fun _ k => XS.icmpNo X0.here hx rfl (hb hby d26_12) rfl (tlt hc5).2.1 k) ?_
  refine ow (oT s₁ m 16 #[oR ax, oR ay, oi 0] [(.ref ax)]) (fun _ k => XS.aloadN X0.here hx rfl (hb hby d26_15) rfl rfl k) ?_
  refine ow (oT s₁ m 17 #[oR ax, oR ay, oi 0] [(.int (0 : Int32)), (.ref ax)]) (fun _ k => XS.iloadN X0.here hx rfl (hb hby d26_16) rfl k) ?_
  obtain ⟨cl6, Ar6, -, S6, M6, H6, -⟩ := id pr1
  have hin6 : ¬ ((0 : Int32) < 0 ∨ cl6.slots.size ≤ ((0 : Int32)).toNatClampNeg) := (inb_of S6 ⟨by decide, by decide⟩)
  have hat6 : cl6.slots[((0 : Int32)).toNatClampNeg]? = some (.int w0) := (H6.at hin6 rfl)
  refine ow (oT s₁ m 18 #[oR ax, oR ay, oi 0] [(.int w0)]) (X0.baloadBytes hx (j := (0 : Int32)) (v := (.int w0)) (by rw [e0]; exact Ar6.1) (State.isArrayOf_alike hZ.alike Ar6.2.1) Ar6.2.2 hin6 hat6 (g := (mkF m 17 #[oR ax, oR ay, oi 0] [(.int (0 : Int32)), (.ref ax)])) rfl rfl (hb hby d26_17)) ?_
  refine ow (oT s₁ m 19 #[oR ax, oR ay, oi 0] [(.ref ay), (.int w0)]) (fun _ k => XS.aloadN X0.here hx rfl (hb hby d26_18) rfl rfl k) ?_
  refine ow (oT s₁ m 20 #[oR ax, oR ay, oi 0] [(.int (0 : Int32)), (.ref ay), (.int w0)]) (fun _ k => XS.iloadN X0.here hx rfl (hb hby d26_19) rfl k) ?_
  obtain ⟨cl7, Ar7, -, S7, M7, H7, -⟩ := id pr2
  have hin7 : ¬ ((0 : Int32) < 0 ∨ cl7.slots.size ≤ ((0 : Int32)).toNatClampNeg) := (inb_of S7 ⟨by decide, by decide⟩)
  have hat7 : cl7.slots[((0 : Int32)).toNatClampNeg]? = some (.int w0) := (H7.at hin7 rfl)
  refine ow (oT s₁ m 21 #[oR ax, oR ay, oi 0] [(.int w0), (.int w0)]) (X0.baloadBytes hx (j := (0 : Int32)) (v := (.int w0)) (by rw [e0]; exact Ar7.1) (State.isArrayOf_alike hZ.alike Ar7.2.1) Ar7.2.2 hin7 hat7 (g := (mkF m 20 #[oR ax, oR ay, oi 0] [(.int (0 : Int32)), (.ref ay), (.int w0)])) rfl rfl (hb hby d26_20)) ?_
  have hc8 : w0 = w0 := rfl
  refine ow (oT s₁ m 26 #[oR ax, oR ay, oi 0] []) (fun _ k => XS.icmpYes X0.here hx rfl (pc0 := 21) (pc' := 26) rfl (hb hby d26_21) rfl (teq hc8).1 (by decide) (by decide) k) ?_
  refine ow (oT s₁ m 29 #[oR ax, oR ay, oi 1] []) (fun _ k => XS.iinc X0.here hx rfl (hb hby d26_26) rfl (l' := #[oR ax, oR ay, oi 1]) (by rw [show ((0 : Int32) + Int32.ofInt 1) = (1 : Int32) by decide]; rfl) k) ?_
  refine ow (oT s₁ m 9 #[oR ax, oR ay, oi 1] []) (fun _ k => XS.goto X0.here hx rfl (pc0 := 29) (pc' := 9) rfl (hb hby d26_29) (by decide) (by decide) k) ?_
  refine ow (oT s₁ m 10 #[oR ax, oR ay, oi 1] [(.int (1 : Int32))]) (fun _ k => XS.iloadN X0.here hx rfl (hb hby d26_9) rfl k) ?_
  refine ow (oT s₁ m 11 #[oR ax, oR ay, oi 1] [(.ref ax), (.int (1 : Int32))]) (fun _ k => XS.aloadN X0.here hx rfl (hb hby d26_10) rfl rfl k) ?_
  obtain ⟨cl9, Ar9, -, S9, M9, -, -⟩ := id pr1
  refine ow (oT s₁ m 12 #[oR ax, oR ay, oi 1] [(.int (1 : Int32)), (.int (1 : Int32))]) (fun t k => X0.arraylength hx (by rw [e0]; exact Ar9.1) (State.isArrayOf_alike hZ.alike Ar9.2.1) (g := (mkF m 11 #[oR ax, oR ay, oi 1] [(.ref ax), (.int (1 : Int32))])) rfl rfl (hb hby d26_11) t (by rw [len_of S9 M9]; exact k)) ?_
  have hc10 : ¬ ((1 : Int32) < (1 : Int32)) := by decide
  refine ow (oT s₁ m 32 #[oR ax, oR ay, oi 1] []) (fun _ k => XS.icmpYes X0.here hx rfl (pc0 := 12) (pc' := 32) rfl (hb hby d26_12) rfl (flt hc10).2.1 (by decide) (by decide) k) ?_
  refine ow (oT s₁ m 33 #[oR ax, oR ay, oi 1] [(.int (1 : Int32))]) (fun _ k => XS.iconst X0.here hx rfl (hb hby d26_32) k) ?_
  obtain ⟨fs, hr, hrun, hended, hW, hsame⟩ := X0.leave (v := some (.int (1 : Int32))) (fun h => by rw [Bd.returns] at h; cases h)
  refine ⟨_, _, ?_, hP _ _ hrun hended ⟨_, _, rfl, ?_, ⟨_, rfl⟩, hW, hsame.mono (by decide) (by decide)⟩⟩
  · exact retN X0 hx (t := .boolean) Bd.returns (by simp) (hb hby d26_33) hr
  ·
   show Qrle_1 Z ax ka ay kb w0 h0 n0 _ s₁.heap _
   rw [e0]
   exact ⟨rfl, N0, rfl⟩
theorem ef_rle_2 (m : MethodId) (x0 : Addr) (x1 : Addr) : entryFrame m #[(.ref x0), (.ref x1)] 3 = mkF m 0 #[.val (.ref x0), .val (.ref x1), .unset] [] := by first | (simp [entryFrame, mkF, argsToLocals, Value.category]; done) | rfl
def Qrle_2 (Z : State) (ax : Addr) (ka : ClassId) (ay : Addr) (kb : ClassId) (w0 : Int32) (w1 : Int32) (h0 : Heap) (n0 : Nat) (v : Option Value) (h : Heap) (L : List Loc) : Prop := (v = some (.int (1 : Int32))) ∧ (Fr n0 L) ∧ (h = h0)
set_option maxRecDepth 65536 in
set_option maxHeartbeats 40000000 in
theorem rle_2 (l : Launch) (Z : State) (a0 : Array Value) (hw : ∀ d ∈ tables_1, d.before a0 Z = true) (ws : List Jvm.Cond) (ax : Addr) (ka : ClassId) (ay : Addr) (kb : ClassId) (w0 : Int32) (w1 : Int32) (h0 : Heap) (n0 : Nat) (Z0 : n0 ≤ h0.size) (pr1 : Arv Z h0 ax ka .byte (2 : Int32) [(.int w0), (.int w1)] (.int (0 : Int32))) (pr2 : Arv Z h0 ay kb .byte (2 : Int32) [(.int w0), (.int w1)] (.int (0 : Int32))) :
    MetFree l oM7 (head1 (Jvm.Cond.code oM7 jdk_43_method_13_code 3 (some .boolean) :: ws) ({ frames := 0, cells := 0, slots := 0, locals := 0 } : Room)) (fun a U => a = #[(.ref ax), (.ref ay)] ∧ Z.Warmed39 U.vm ∧ U.heap = h0) (fun _ _ _ _ _ => True) (fun _ U o U' => ∃ v L, o = .returned v ∧ Qrle_2 Z ax ka ay kb w0 w1 h0 n0 v U'.heap L ∧ FrameEnd U o U' L ({ frames := 0, cells := 0, slots := 0, locals := 0 } : Room).cells ({ frames := 0, cells := 0, slots := 0, locals := 0 } : Room).slots) := by
  refine MetFree.of_bodySF (plainFor_of_name pn_26) hisR ?_
  intro p e s m args below meth c s₁ Bd hml0 hP0 hK
  obtain ⟨rfl, hZ, hh⟩ := hP0
  have hx := Bd.exec
  have hby := Bd.bytes
  have hml : c.maxLocals = 3 := hml0
  have hown : s.vm.findClass oS16 = some m.cls := findClass_of_methodNamed Bd.named
  have hnm := (name_of_methodNamed Bd.named Bd.method).1
  have X0 : Stand p l e ({ frames := 0, cells := 0, slots := 0, locals := 0 } : Room) s m #[(.ref ax), (.ref ay)] below meth c s₁ [] 0 0 := Stand.of_body Bd
  have e0 : s₁.heap = h0 := by rw [← hh, Bd.state]; rfl
  have N0 := Fr.nil n0
  refine own_fin (st' := s₁.setTop (mkF m 0 #[oR ax, oR ay, .unset] [])) (fun _ k => castTop (ef_rle_2 m ax ay) k) (fun P hP => ?_)
  have lt_ax : @LT.lt Nat _ ax h0.size := pr1.lt
  have lt_ay : @LT.lt Nat _ ay h0.size := pr2.lt
  refine ow (oT s₁ m 1 #[oR ax, oR ay, .unset] [(.ref ax)]) (fun _ k => XS.aloadN X0.here hx rfl (hb hby d26_0) rfl rfl k) ?_
  obtain ⟨cl1, Ar1, -, S1, M1, -, -⟩ := id pr1
  refine ow (oT s₁ m 2 #[oR ax, oR ay, .unset] [(.int (2 : Int32))]) (fun t k => X0.arraylength hx (by rw [e0]; exact Ar1.1) (State.isArrayOf_alike hZ.alike Ar1.2.1) (g := (mkF m 1 #[oR ax, oR ay, .unset] [(.ref ax)])) rfl rfl (hb hby d26_1) t (by rw [len_of S1 M1]; exact k)) ?_
  refine ow (oT s₁ m 3 #[oR ax, oR ay, .unset] [(.ref ay), (.int (2 : Int32))]) (fun _ k => XS.aloadN X0.here hx rfl (hb hby d26_2) rfl rfl k) ?_
  obtain ⟨cl2, Ar2, -, S2, M2, -, -⟩ := id pr2
  refine ow (oT s₁ m 4 #[oR ax, oR ay, .unset] [(.int (2 : Int32)), (.int (2 : Int32))]) (fun t k => X0.arraylength hx (by rw [e0]; exact Ar2.1) (State.isArrayOf_alike hZ.alike Ar2.2.1) (g := (mkF m 3 #[oR ax, oR ay, .unset] [(.ref ay), (.int (2 : Int32))])) rfl rfl (hb hby d26_3) t (by rw [len_of S2 M2]; exact k)) ?_
  have hc3 : (2 : Int32) = (2 : Int32) := by decide
  refine ow (oT s₁ m 7 #[oR ax, oR ay, .unset] []) (fun _ k => XS.icmpNo X0.here hx rfl (hb hby d26_4) rfl (teq hc3).2 k) ?_
  refine ow (oT s₁ m 8 #[oR ax, oR ay, .unset] [(.int (0 : Int32))]) (fun _ k => XS.iconst X0.here hx rfl (hb hby d26_7) k) ?_
  refine ow (oT s₁ m 9 #[oR ax, oR ay, oi 0] []) (fun _ k => XS.istoreN X0.here hx rfl (hb hby d26_8) rfl (l' := #[oR ax, oR ay, oi 0]) rfl k) ?_
  refine ow (oT s₁ m 10 #[oR ax, oR ay, oi 0] [(.int (0 : Int32))]) (fun _ k => XS.iloadN X0.here hx rfl (hb hby d26_9) rfl k) ?_
  refine ow (oT s₁ m 11 #[oR ax, oR ay, oi 0] [(.ref ax), (.int (0 : Int32))]) (fun _ k => XS.aloadN X0.here hx rfl (hb hby d26_10) rfl rfl k) ?_
  obtain ⟨cl4, Ar4, -, S4, M4, -, -⟩ := id pr1
  refine ow (oT s₁ m 12 #[oR ax, oR ay, oi 0] [(.int (2 : Int32)), (.int (0 : Int32))]) (fun t k => X0.arraylength hx (by rw [e0]; exact Ar4.1) (State.isArrayOf_alike hZ.alike Ar4.2.1) (g := (mkF m 11 #[oR ax, oR ay, oi 0] [(.ref ax), (.int (0 : Int32))])) rfl rfl (hb hby d26_11) t (by rw [len_of S4 M4]; exact k)) ?_
  have hc5 : (0 : Int32) < (2 : Int32) := by decide
  refine ow (oT s₁ m 15 #[oR ax, oR ay, oi 0] []) (fun _ k => XS.icmpNo X0.here hx rfl (hb hby d26_12) rfl (tlt hc5).2.1 k) ?_
  refine ow (oT s₁ m 16 #[oR ax, oR ay, oi 0] [(.ref ax)]) (fun _ k => XS.aloadN X0.here hx rfl (hb hby d26_15) rfl rfl k) ?_
  refine ow (oT s₁ m 17 #[oR ax, oR ay, oi 0] [(.int (0 : Int32)), (.ref ax)]) (fun _ k => XS.iloadN X0.here hx rfl (hb hby d26_16) rfl k) ?_
  obtain ⟨cl6, Ar6, -, S6, M6, H6, -⟩ := id pr1
  have hin6 : ¬ ((0 : Int32) < 0 ∨ cl6.slots.size ≤ ((0 : Int32)).toNatClampNeg) := (inb_of S6 ⟨by decide, by decide⟩)
  have hat6 : cl6.slots[((0 : Int32)).toNatClampNeg]? = some (.int w0) := (H6.at hin6 rfl)
  refine ow (oT s₁ m 18 #[oR ax, oR ay, oi 0] [(.int w0)]) (X0.baloadBytes hx (j := (0 : Int32)) (v := (.int w0)) (by rw [e0]; exact Ar6.1) (State.isArrayOf_alike hZ.alike Ar6.2.1) Ar6.2.2 hin6 hat6 (g := (mkF m 17 #[oR ax, oR ay, oi 0] [(.int (0 : Int32)), (.ref ax)])) rfl rfl (hb hby d26_17)) ?_
  refine ow (oT s₁ m 19 #[oR ax, oR ay, oi 0] [(.ref ay), (.int w0)]) (fun _ k => XS.aloadN X0.here hx rfl (hb hby d26_18) rfl rfl k) ?_
  refine ow (oT s₁ m 20 #[oR ax, oR ay, oi 0] [(.int (0 : Int32)), (.ref ay), (.int w0)]) (fun _ k => XS.iloadN X0.here hx rfl (hb hby d26_19) rfl k) ?_
  obtain ⟨cl7, Ar7, -, S7, M7, H7, -⟩ := id pr2
  have hin7 : ¬ ((0 : Int32) < 0 ∨ cl7.slots.size ≤ ((0 : Int32)).toNatClampNeg) := (inb_of S7 ⟨by decide, by decide⟩)
  have hat7 : cl7.slots[((0 : Int32)).toNatClampNeg]? = some (.int w0) := (H7.at hin7 rfl)
  refine ow (oT s₁ m 21 #[oR ax, oR ay, oi 0] [(.int w0), (.int w0)]) (X0.baloadBytes hx (j := (0 : Int32)) (v := (.int w0)) (by rw [e0]; exact Ar7.1) (State.isArrayOf_alike hZ.alike Ar7.2.1) Ar7.2.2 hin7 hat7 (g := (mkF m 20 #[oR ax, oR ay, oi 0] [(.int (0 : Int32)), (.ref ay), (.int w0)])) rfl rfl (hb hby d26_20)) ?_
  have hc8 : w0 = w0 := rfl
  refine ow (oT s₁ m 26 #[oR ax, oR ay, oi 0] []) (fun _ k => XS.icmpYes X0.here hx rfl (pc0 := 21) (pc' := 26) rfl (hb hby d26_21) rfl (teq hc8).1 (by decide) (by decide) k) ?_
  refine ow (oT s₁ m 29 #[oR ax, oR ay, oi 1] []) (fun _ k => XS.iinc X0.here hx rfl (hb hby d26_26) rfl (l' := #[oR ax, oR ay, oi 1]) (by rw [show ((0 : Int32) + Int32.ofInt 1) = (1 : Int32) by decide]; rfl) k) ?_
  refine ow (oT s₁ m 9 #[oR ax, oR ay, oi 1] []) (fun _ k => XS.goto X0.here hx rfl (pc0 := 29) (pc' := 9) rfl (hb hby d26_29) (by decide) (by decide) k) ?_
  refine ow (oT s₁ m 10 #[oR ax, oR ay, oi 1] [(.int (1 : Int32))]) (fun _ k => XS.iloadN X0.here hx rfl (hb hby d26_9) rfl k) ?_
  refine ow (oT s₁ m 11 #[oR ax, oR ay, oi 1] [(.ref ax), (.int (1 : Int32))]) (fun _ k => XS.aloadN X0.here hx rfl (hb hby d26_10) rfl rfl k) ?_
  obtain ⟨cl9, Ar9, -, S9, M9, -, -⟩ := id pr1
  refine ow (oT s₁ m 12 #[oR ax, oR ay, oi 1] [(.int (2 : Int32)), (.int (1 : Int32))]) (fun t k => X0.arraylength hx (by rw [e0]; exact Ar9.1) (State.isArrayOf_alike hZ.alike Ar9.2.1) (g := (mkF m 11 #[oR ax, oR ay, oi 1] [(.ref ax), (.int (1 : Int32))])) rfl rfl (hb hby d26_11) t (by rw [len_of S9 M9]; exact k)) ?_
  have hc10 : (1 : Int32) < (2 : Int32) := by decide
  refine ow (oT s₁ m 15 #[oR ax, oR ay, oi 1] []) (fun _ k => XS.icmpNo X0.here hx rfl (hb hby d26_12) rfl (tlt hc10).2.1 k) ?_
  refine ow (oT s₁ m 16 #[oR ax, oR ay, oi 1] [(.ref ax)]) (fun _ k => XS.aloadN X0.here hx rfl (hb hby d26_15) rfl rfl k) ?_
  refine ow (oT s₁ m 17 #[oR ax, oR ay, oi 1] [(.int (1 : Int32)), (.ref ax)]) (fun _ k => XS.iloadN X0.here hx rfl (hb hby d26_16) rfl k) ?_
  obtain ⟨cl11, Ar11, -, S11, M11, H11, -⟩ := id pr1
  have hin11 : ¬ ((1 : Int32) < 0 ∨ cl11.slots.size ≤ ((1 : Int32)).toNatClampNeg) := (inb_of S11 ⟨by decide, by decide⟩)
  have hat11 : cl11.slots[((1 : Int32)).toNatClampNeg]? = some (.int w1) := (H11.at hin11 rfl)
  refine ow (oT s₁ m 18 #[oR ax, oR ay, oi 1] [(.int w1)]) (X0.baloadBytes hx (j := (1 : Int32)) (v := (.int w1)) (by rw [e0]; exact Ar11.1) (State.isArrayOf_alike hZ.alike Ar11.2.1) Ar11.2.2 hin11 hat11 (g := (mkF m 17 #[oR ax, oR ay, oi 1] [(.int (1 : Int32)), (.ref ax)])) rfl rfl (hb hby d26_17)) ?_
  refine ow (oT s₁ m 19 #[oR ax, oR ay, oi 1] [(.ref ay), (.int w1)]) (fun _ k => XS.aloadN X0.here hx rfl (hb hby d26_18) rfl rfl k) ?_
  refine ow (oT s₁ m 20 #[oR ax, oR ay, oi 1] [(.int (1 : Int32)), (.ref ay), (.int w1)]) (fun _ k => XS.iloadN X0.here hx rfl (hb hby d26_19) rfl k) ?_
  obtain ⟨cl12, Ar12, -, S12, M12, H12, -⟩ := id pr2
  have hin12 : ¬ ((1 : Int32) < 0 ∨ cl12.slots.size ≤ ((1 : Int32)).toNatClampNeg) := (inb_of S12 ⟨by decide, by decide⟩)
  have hat12 : cl12.slots[((1 : Int32)).toNatClampNeg]? = some (.int w1) := (H12.at hin12 rfl)
  refine ow (oT s₁ m 21 #[oR ax, oR ay, oi 1] [(.int w1), (.int w1)]) (X0.baloadBytes hx (j := (1 : Int32)) (v := (.int w1)) (by rw [e0]; exact Ar12.1) (State.isArrayOf_alike hZ.alike Ar12.2.1) Ar12.2.2 hin12 hat12 (g := (mkF m 20 #[oR ax, oR ay, oi 1] [(.int (1 : Int32)), (.ref ay), (.int w1)])) rfl rfl (hb hby d26_20)) ?_
  have hc13 : w1 = w1 := rfl
  refine ow (oT s₁ m 26 #[oR ax, oR ay, oi 1] []) (fun _ k => XS.icmpYes X0.here hx rfl (pc0 := 21) (pc' := 26) rfl (hb hby d26_21) rfl (teq hc13).1 (by decide) (by decide) k) ?_
  refine ow (oT s₁ m 29 #[oR ax, oR ay, oi 2] []) (fun _ k => XS.iinc X0.here hx rfl (hb hby d26_26) rfl (l' := #[oR ax, oR ay, oi 2]) (by rw [show ((1 : Int32) + Int32.ofInt 1) = (2 : Int32) by decide]; rfl) k) ?_
  refine ow (oT s₁ m 9 #[oR ax, oR ay, oi 2] []) (fun _ k => XS.goto X0.here hx rfl (pc0 := 29) (pc' := 9) rfl (hb hby d26_29) (by decide) (by decide) k) ?_
  refine ow (oT s₁ m 10 #[oR ax, oR ay, oi 2] [(.int (2 : Int32))]) (fun _ k => XS.iloadN X0.here hx rfl (hb hby d26_9) rfl k) ?_
  refine ow (oT s₁ m 11 #[oR ax, oR ay, oi 2] [(.ref ax), (.int (2 : Int32))]) (fun _ k => XS.aloadN X0.here hx rfl (hb hby d26_10) rfl rfl k) ?_
  obtain ⟨cl14, Ar14, -, S14, M14, -, -⟩ := id pr1
  refine ow (oT s₁ m 12 #[oR ax, oR ay, oi 2] [(.int (2 : Int32)), (.int (2 : Int32))]) (fun t k => X0.arraylength hx (by rw [e0]; exact Ar14.1) (State.isArrayOf_alike hZ.alike Ar14.2.1) (g := (mkF m 11 #[oR ax, oR ay, oi 2] [(.ref ax), (.int (2 : Int32))])) rfl rfl (hb hby d26_11) t (by rw [len_of S14 M14]; exact k)) ?_
  have hc15 : ¬ ((2 : Int32) < (2 : Int32)) := by decide
  refine ow (oT s₁ m 32 #[oR ax, oR ay, oi 2] []) (fun _ k => XS.icmpYes X0.here hx rfl (pc0 := 12) (pc' := 32) rfl (hb hby d26_12) rfl (flt hc15).2.1 (by decide) (by decide) k) ?_
  refine ow (oT s₁ m 33 #[oR ax, oR ay, oi 2] [(.int (1 : Int32))]) (fun _ k => XS.iconst X0.here hx rfl (hb hby d26_32) k) ?_
  obtain ⟨fs, hr, hrun, hended, hW, hsame⟩ := X0.leave (v := some (.int (1 : Int32))) (fun h => by rw [Bd.returns] at h; cases h)
  refine ⟨_, _, ?_, hP _ _ hrun hended ⟨_, _, rfl, ?_, ⟨_, rfl⟩, hW, hsame.mono (by decide) (by decide)⟩⟩
  · exact retN X0 hx (t := .boolean) Bd.returns (by simp) (hb hby d26_33) hr
  ·
   show Qrle_2 Z ax ka ay kb w0 w1 h0 n0 _ s₁.heap _
   rw [e0]
   exact ⟨rfl, N0, rfl⟩
theorem ef_rle_3 (m : MethodId) (x0 : Addr) (x1 : Addr) : entryFrame m #[(.ref x0), (.ref x1)] 3 = mkF m 0 #[.val (.ref x0), .val (.ref x1), .unset] [] := by first | (simp [entryFrame, mkF, argsToLocals, Value.category]; done) | rfl
def Qrle_3 (Z : State) (ax : Addr) (ka : ClassId) (ay : Addr) (kb : ClassId) (w0 : Int32) (w1 : Int32) (w2 : Int32) (h0 : Heap) (n0 : Nat) (v : Option Value) (h : Heap) (L : List Loc) : Prop := (v = some (.int (1 : Int32))) ∧ (Fr n0 L) ∧ (h = h0)
set_option maxRecDepth 65536 in
set_option maxHeartbeats 40000000 in
theorem rle_3 (l : Launch) (Z : State) (a0 : Array Value) (hw : ∀ d ∈ tables_1, d.before a0 Z = true) (ws : List Jvm.Cond) (ax : Addr) (ka : ClassId) (ay : Addr) (kb : ClassId) (w0 : Int32) (w1 : Int32) (w2 : Int32) (h0 : Heap) (n0 : Nat) (Z0 : n0 ≤ h0.size) (pr1 : Arv Z h0 ax ka .byte (3 : Int32) [(.int w0), (.int w1), (.int w2)] (.int (0 : Int32))) (pr2 : Arv Z h0 ay kb .byte (3 : Int32) [(.int w0), (.int w1), (.int w2)] (.int (0 : Int32))) :
    MetFree l oM7 (head1 (Jvm.Cond.code oM7 jdk_43_method_13_code 3 (some .boolean) :: ws) ({ frames := 0, cells := 0, slots := 0, locals := 0 } : Room)) (fun a U => a = #[(.ref ax), (.ref ay)] ∧ Z.Warmed39 U.vm ∧ U.heap = h0) (fun _ _ _ _ _ => True) (fun _ U o U' => ∃ v L, o = .returned v ∧ Qrle_3 Z ax ka ay kb w0 w1 w2 h0 n0 v U'.heap L ∧ FrameEnd U o U' L ({ frames := 0, cells := 0, slots := 0, locals := 0 } : Room).cells ({ frames := 0, cells := 0, slots := 0, locals := 0 } : Room).slots) := by
  refine MetFree.of_bodySF (plainFor_of_name pn_26) hisR ?_
  intro p e s m args below meth c s₁ Bd hml0 hP0 hK
  obtain ⟨rfl, hZ, hh⟩ := hP0
  have hx := Bd.exec
  have hby := Bd.bytes
  have hml : c.maxLocals = 3 := hml0
  have hown : s.vm.findClass oS16 = some m.cls := findClass_of_methodNamed Bd.named
  have hnm := (name_of_methodNamed Bd.named Bd.method).1
  have X0 : Stand p l e ({ frames := 0, cells := 0, slots := 0, locals := 0 } : Room) s m #[(.ref ax), (.ref ay)] below meth c s₁ [] 0 0 := Stand.of_body Bd
  have e0 : s₁.heap = h0 := by rw [← hh, Bd.state]; rfl
  have N0 := Fr.nil n0
  refine own_fin (st' := s₁.setTop (mkF m 0 #[oR ax, oR ay, .unset] [])) (fun _ k => castTop (ef_rle_3 m ax ay) k) (fun P hP => ?_)
  have lt_ax : @LT.lt Nat _ ax h0.size := pr1.lt
  have lt_ay : @LT.lt Nat _ ay h0.size := pr2.lt
  refine ow (oT s₁ m 1 #[oR ax, oR ay, .unset] [(.ref ax)]) (fun _ k => XS.aloadN X0.here hx rfl (hb hby d26_0) rfl rfl k) ?_
  obtain ⟨cl1, Ar1, -, S1, M1, -, -⟩ := id pr1
  refine ow (oT s₁ m 2 #[oR ax, oR ay, .unset] [(.int (3 : Int32))]) (fun t k => X0.arraylength hx (by rw [e0]; exact Ar1.1) (State.isArrayOf_alike hZ.alike Ar1.2.1) (g := (mkF m 1 #[oR ax, oR ay, .unset] [(.ref ax)])) rfl rfl (hb hby d26_1) t (by rw [len_of S1 M1]; exact k)) ?_
  refine ow (oT s₁ m 3 #[oR ax, oR ay, .unset] [(.ref ay), (.int (3 : Int32))]) (fun _ k => XS.aloadN X0.here hx rfl (hb hby d26_2) rfl rfl k) ?_
  obtain ⟨cl2, Ar2, -, S2, M2, -, -⟩ := id pr2
  refine ow (oT s₁ m 4 #[oR ax, oR ay, .unset] [(.int (3 : Int32)), (.int (3 : Int32))]) (fun t k => X0.arraylength hx (by rw [e0]; exact Ar2.1) (State.isArrayOf_alike hZ.alike Ar2.2.1) (g := (mkF m 3 #[oR ax, oR ay, .unset] [(.ref ay), (.int (3 : Int32))])) rfl rfl (hb hby d26_3) t (by rw [len_of S2 M2]; exact k)) ?_
  have hc3 : (3 : Int32) = (3 : Int32) := by decide
  refine ow (oT s₁ m 7 #[oR ax, oR ay, .unset] []) (fun _ k => XS.icmpNo X0.here hx rfl (hb hby d26_4) rfl (teq hc3).2 k) ?_
  refine ow (oT s₁ m 8 #[oR ax, oR ay, .unset] [(.int (0 : Int32))]) (fun _ k => XS.iconst X0.here hx rfl (hb hby d26_7) k) ?_
  refine ow (oT s₁ m 9 #[oR ax, oR ay, oi 0] []) (fun _ k => XS.istoreN X0.here hx rfl (hb hby d26_8) rfl (l' := #[oR ax, oR ay, oi 0]) rfl k) ?_
  refine ow (oT s₁ m 10 #[oR ax, oR ay, oi 0] [(.int (0 : Int32))]) (fun _ k => XS.iloadN X0.here hx rfl (hb hby d26_9) rfl k) ?_
  refine ow (oT s₁ m 11 #[oR ax, oR ay, oi 0] [(.ref ax), (.int (0 : Int32))]) (fun _ k => XS.aloadN X0.here hx rfl (hb hby d26_10) rfl rfl k) ?_
  obtain ⟨cl4, Ar4, -, S4, M4, -, -⟩ := id pr1
  refine ow (oT s₁ m 12 #[oR ax, oR ay, oi 0] [(.int (3 : Int32)), (.int (0 : Int32))]) (fun t k => X0.arraylength hx (by rw [e0]; exact Ar4.1) (State.isArrayOf_alike hZ.alike Ar4.2.1) (g := (mkF m 11 #[oR ax, oR ay, oi 0] [(.ref ax), (.int (0 : Int32))])) rfl rfl (hb hby d26_11) t (by rw [len_of S4 M4]; exact k)) ?_
  have hc5 : (0 : Int32) < (3 : Int32) := by decide
  refine ow (oT s₁ m 15 #[oR ax, oR ay, oi 0] []) (fun _ k => XS.icmpNo X0.here hx rfl (hb hby d26_12) rfl (tlt hc5).2.1 k) ?_
  refine ow (oT s₁ m 16 #[oR ax, oR ay, oi 0] [(.ref ax)]) (fun _ k => XS.aloadN X0.here hx rfl (hb hby d26_15) rfl rfl k) ?_
  refine ow (oT s₁ m 17 #[oR ax, oR ay, oi 0] [(.int (0 : Int32)), (.ref ax)]) (fun _ k => XS.iloadN X0.here hx rfl (hb hby d26_16) rfl k) ?_
  obtain ⟨cl6, Ar6, -, S6, M6, H6, -⟩ := id pr1
  have hin6 : ¬ ((0 : Int32) < 0 ∨ cl6.slots.size ≤ ((0 : Int32)).toNatClampNeg) := (inb_of S6 ⟨by decide, by decide⟩)
  have hat6 : cl6.slots[((0 : Int32)).toNatClampNeg]? = some (.int w0) := (H6.at hin6 rfl)
  refine ow (oT s₁ m 18 #[oR ax, oR ay, oi 0] [(.int w0)]) (X0.baloadBytes hx (j := (0 : Int32)) (v := (.int w0)) (by rw [e0]; exact Ar6.1) (State.isArrayOf_alike hZ.alike Ar6.2.1) Ar6.2.2 hin6 hat6 (g := (mkF m 17 #[oR ax, oR ay, oi 0] [(.int (0 : Int32)), (.ref ax)])) rfl rfl (hb hby d26_17)) ?_
  refine ow (oT s₁ m 19 #[oR ax, oR ay, oi 0] [(.ref ay), (.int w0)]) (fun _ k => XS.aloadN X0.here hx rfl (hb hby d26_18) rfl rfl k) ?_
  refine ow (oT s₁ m 20 #[oR ax, oR ay, oi 0] [(.int (0 : Int32)), (.ref ay), (.int w0)]) (fun _ k => XS.iloadN X0.here hx rfl (hb hby d26_19) rfl k) ?_
  obtain ⟨cl7, Ar7, -, S7, M7, H7, -⟩ := id pr2
  have hin7 : ¬ ((0 : Int32) < 0 ∨ cl7.slots.size ≤ ((0 : Int32)).toNatClampNeg) := (inb_of S7 ⟨by decide, by decide⟩)
  have hat7 : cl7.slots[((0 : Int32)).toNatClampNeg]? = some (.int w0) := (H7.at hin7 rfl)
  refine ow (oT s₁ m 21 #[oR ax, oR ay, oi 0] [(.int w0), (.int w0)]) (X0.baloadBytes hx (j := (0 : Int32)) (v := (.int w0)) (by rw [e0]; exact Ar7.1) (State.isArrayOf_alike hZ.alike Ar7.2.1) Ar7.2.2 hin7 hat7 (g := (mkF m 20 #[oR ax, oR ay, oi 0] [(.int (0 : Int32)), (.ref ay), (.int w0)])) rfl rfl (hb hby d26_20)) ?_
  have hc8 : w0 = w0 := rfl
  refine ow (oT s₁ m 26 #[oR ax, oR ay, oi 0] []) (fun _ k => XS.icmpYes X0.here hx rfl (pc0 := 21) (pc' := 26) rfl (hb hby d26_21) rfl (teq hc8).1 (by decide) (by decide) k) ?_
  refine ow (oT s₁ m 29 #[oR ax, oR ay, oi 1] []) (fun _ k => XS.iinc X0.here hx rfl (hb hby d26_26) rfl (l' := #[oR ax, oR ay, oi 1]) (by rw [show ((0 : Int32) + Int32.ofInt 1) = (1 : Int32) by decide]; rfl) k) ?_
  refine ow (oT s₁ m 9 #[oR ax, oR ay, oi 1] []) (fun _ k => XS.goto X0.here hx rfl (pc0 := 29) (pc' := 9) rfl (hb hby d26_29) (by decide) (by decide) k) ?_
  refine ow (oT s₁ m 10 #[oR ax, oR ay, oi 1] [(.int (1 : Int32))]) (fun _ k => XS.iloadN X0.here hx rfl (hb hby d26_9) rfl k) ?_
  refine ow (oT s₁ m 11 #[oR ax, oR ay, oi 1] [(.ref ax), (.int (1 : Int32))]) (fun _ k => XS.aloadN X0.here hx rfl (hb hby d26_10) rfl rfl k) ?_
  obtain ⟨cl9, Ar9, -, S9, M9, -, -⟩ := id pr1
  refine ow (oT s₁ m 12 #[oR ax, oR ay, oi 1] [(.int (3 : Int32)), (.int (1 : Int32))]) (fun t k => X0.arraylength hx (by rw [e0]; exact Ar9.1) (State.isArrayOf_alike hZ.alike Ar9.2.1) (g := (mkF m 11 #[oR ax, oR ay, oi 1] [(.ref ax), (.int (1 : Int32))])) rfl rfl (hb hby d26_11) t (by rw [len_of S9 M9]; exact k)) ?_
  have hc10 : (1 : Int32) < (3 : Int32) := by decide
  refine ow (oT s₁ m 15 #[oR ax, oR ay, oi 1] []) (fun _ k => XS.icmpNo X0.here hx rfl (hb hby d26_12) rfl (tlt hc10).2.1 k) ?_
  refine ow (oT s₁ m 16 #[oR ax, oR ay, oi 1] [(.ref ax)]) (fun _ k => XS.aloadN X0.here hx rfl (hb hby d26_15) rfl rfl k) ?_
  refine ow (oT s₁ m 17 #[oR ax, oR ay, oi 1] [(.int (1 : Int32)), (.ref ax)]) (fun _ k => XS.iloadN X0.here hx rfl (hb hby d26_16) rfl k) ?_
  obtain ⟨cl11, Ar11, -, S11, M11, H11, -⟩ := id pr1
  have hin11 : ¬ ((1 : Int32) < 0 ∨ cl11.slots.size ≤ ((1 : Int32)).toNatClampNeg) := (inb_of S11 ⟨by decide, by decide⟩)
  have hat11 : cl11.slots[((1 : Int32)).toNatClampNeg]? = some (.int w1) := (H11.at hin11 rfl)
  refine ow (oT s₁ m 18 #[oR ax, oR ay, oi 1] [(.int w1)]) (X0.baloadBytes hx (j := (1 : Int32)) (v := (.int w1)) (by rw [e0]; exact Ar11.1) (State.isArrayOf_alike hZ.alike Ar11.2.1) Ar11.2.2 hin11 hat11 (g := (mkF m 17 #[oR ax, oR ay, oi 1] [(.int (1 : Int32)), (.ref ax)])) rfl rfl (hb hby d26_17)) ?_
  refine ow (oT s₁ m 19 #[oR ax, oR ay, oi 1] [(.ref ay), (.int w1)]) (fun _ k => XS.aloadN X0.here hx rfl (hb hby d26_18) rfl rfl k) ?_
  refine ow (oT s₁ m 20 #[oR ax, oR ay, oi 1] [(.int (1 : Int32)), (.ref ay), (.int w1)]) (fun _ k => XS.iloadN X0.here hx rfl (hb hby d26_19) rfl k) ?_
  obtain ⟨cl12, Ar12, -, S12, M12, H12, -⟩ := id pr2
  have hin12 : ¬ ((1 : Int32) < 0 ∨ cl12.slots.size ≤ ((1 : Int32)).toNatClampNeg) := (inb_of S12 ⟨by decide, by decide⟩)
  have hat12 : cl12.slots[((1 : Int32)).toNatClampNeg]? = some (.int w1) := (H12.at hin12 rfl)
  refine ow (oT s₁ m 21 #[oR ax, oR ay, oi 1] [(.int w1), (.int w1)]) (X0.baloadBytes hx (j := (1 : Int32)) (v := (.int w1)) (by rw [e0]; exact Ar12.1) (State.isArrayOf_alike hZ.alike Ar12.2.1) Ar12.2.2 hin12 hat12 (g := (mkF m 20 #[oR ax, oR ay, oi 1] [(.int (1 : Int32)), (.ref ay), (.int w1)])) rfl rfl (hb hby d26_20)) ?_
  have hc13 : w1 = w1 := rfl
  refine ow (oT s₁ m 26 #[oR ax, oR ay, oi 1] []) (fun _ k => XS.icmpYes X0.here hx rfl (pc0 := 21) (pc' := 26) rfl (hb hby d26_21) rfl (teq hc13).1 (by decide) (by decide) k) ?_
  refine ow (oT s₁ m 29 #[oR ax, oR ay, oi 2] []) (fun _ k => XS.iinc X0.here hx rfl (hb hby d26_26) rfl (l' := #[oR ax, oR ay, oi 2]) (by rw [show ((1 : Int32) + Int32.ofInt 1) = (2 : Int32) by decide]; rfl) k) ?_
  refine ow (oT s₁ m 9 #[oR ax, oR ay, oi 2] []) (fun _ k => XS.goto X0.here hx rfl (pc0 := 29) (pc' := 9) rfl (hb hby d26_29) (by decide) (by decide) k) ?_
  refine ow (oT s₁ m 10 #[oR ax, oR ay, oi 2] [(.int (2 : Int32))]) (fun _ k => XS.iloadN X0.here hx rfl (hb hby d26_9) rfl k) ?_
  refine ow (oT s₁ m 11 #[oR ax, oR ay, oi 2] [(.ref ax), (.int (2 : Int32))]) (fun _ k => XS.aloadN X0.here hx rfl (hb hby d26_10) rfl rfl k) ?_
  obtain ⟨cl14, Ar14, -, S14, M14, -, -⟩ := id pr1
  refine ow (oT s₁ m 12 #[oR ax, oR ay, oi 2] [(.int (3 : Int32)), (.int (2 : Int32))]) (fun t k => X0.arraylength hx (by rw [e0]; exact Ar14.1) (State.isArrayOf_alike hZ.alike Ar14.2.1) (g := (mkF m 11 #[oR ax, oR ay, oi 2] [(.ref ax), (.int (2 : Int32))])) rfl rfl (hb hby d26_11) t (by rw [len_of S14 M14]; exact k)) ?_
  have hc15 : (2 : Int32) < (3 : Int32) := by decide
  refine ow (oT s₁ m 15 #[oR ax, oR ay, oi 2] []) (fun _ k => XS.icmpNo X0.here hx rfl (hb hby d26_12) rfl (tlt hc15).2.1 k) ?_
  refine ow (oT s₁ m 16 #[oR ax, oR ay, oi 2] [(.ref ax)]) (fun _ k => XS.aloadN X0.here hx rfl (hb hby d26_15) rfl rfl k) ?_
  refine ow (oT s₁ m 17 #[oR ax, oR ay, oi 2] [(.int (2 : Int32)), (.ref ax)]) (fun _ k => XS.iloadN X0.here hx rfl (hb hby d26_16) rfl k) ?_
  obtain ⟨cl16, Ar16, -, S16, M16, H16, -⟩ := id pr1
  have hin16 : ¬ ((2 : Int32) < 0 ∨ cl16.slots.size ≤ ((2 : Int32)).toNatClampNeg) := (inb_of S16 ⟨by decide, by decide⟩)
  have hat16 : cl16.slots[((2 : Int32)).toNatClampNeg]? = some (.int w2) := (H16.at hin16 rfl)
  refine ow (oT s₁ m 18 #[oR ax, oR ay, oi 2] [(.int w2)]) (X0.baloadBytes hx (j := (2 : Int32)) (v := (.int w2)) (by rw [e0]; exact Ar16.1) (State.isArrayOf_alike hZ.alike Ar16.2.1) Ar16.2.2 hin16 hat16 (g := (mkF m 17 #[oR ax, oR ay, oi 2] [(.int (2 : Int32)), (.ref ax)])) rfl rfl (hb hby d26_17)) ?_
  refine ow (oT s₁ m 19 #[oR ax, oR ay, oi 2] [(.ref ay), (.int w2)]) (fun _ k => XS.aloadN X0.here hx rfl (hb hby d26_18) rfl rfl k) ?_
  refine ow (oT s₁ m 20 #[oR ax, oR ay, oi 2] [(.int (2 : Int32)), (.ref ay), (.int w2)]) (fun _ k => XS.iloadN X0.here hx rfl (hb hby d26_19) rfl k) ?_
  obtain ⟨cl17, Ar17, -, S17, M17, H17, -⟩ := id pr2
  have hin17 : ¬ ((2 : Int32) < 0 ∨ cl17.slots.size ≤ ((2 : Int32)).toNatClampNeg) := (inb_of S17 ⟨by decide, by decide⟩)
  have hat17 : cl17.slots[((2 : Int32)).toNatClampNeg]? = some (.int w2) := (H17.at hin17 rfl)
  refine ow (oT s₁ m 21 #[oR ax, oR ay, oi 2] [(.int w2), (.int w2)]) (X0.baloadBytes hx (j := (2 : Int32)) (v := (.int w2)) (by rw [e0]; exact Ar17.1) (State.isArrayOf_alike hZ.alike Ar17.2.1) Ar17.2.2 hin17 hat17 (g := (mkF m 20 #[oR ax, oR ay, oi 2] [(.int (2 : Int32)), (.ref ay), (.int w2)])) rfl rfl (hb hby d26_20)) ?_
  have hc18 : w2 = w2 := rfl
  refine ow (oT s₁ m 26 #[oR ax, oR ay, oi 2] []) (fun _ k => XS.icmpYes X0.here hx rfl (pc0 := 21) (pc' := 26) rfl (hb hby d26_21) rfl (teq hc18).1 (by decide) (by decide) k) ?_
  refine ow (oT s₁ m 29 #[oR ax, oR ay, oi 3] []) (fun _ k => XS.iinc X0.here hx rfl (hb hby d26_26) rfl (l' := #[oR ax, oR ay, oi 3]) (by rw [show ((2 : Int32) + Int32.ofInt 1) = (3 : Int32) by decide]; rfl) k) ?_
  refine ow (oT s₁ m 9 #[oR ax, oR ay, oi 3] []) (fun _ k => XS.goto X0.here hx rfl (pc0 := 29) (pc' := 9) rfl (hb hby d26_29) (by decide) (by decide) k) ?_
  refine ow (oT s₁ m 10 #[oR ax, oR ay, oi 3] [(.int (3 : Int32))]) (fun _ k => XS.iloadN X0.here hx rfl (hb hby d26_9) rfl k) ?_
  refine ow (oT s₁ m 11 #[oR ax, oR ay, oi 3] [(.ref ax), (.int (3 : Int32))]) (fun _ k => XS.aloadN X0.here hx rfl (hb hby d26_10) rfl rfl k) ?_
  obtain ⟨cl19, Ar19, -, S19, M19, -, -⟩ := id pr1
  refine ow (oT s₁ m 12 #[oR ax, oR ay, oi 3] [(.int (3 : Int32)), (.int (3 : Int32))]) (fun t k => X0.arraylength hx (by rw [e0]; exact Ar19.1) (State.isArrayOf_alike hZ.alike Ar19.2.1) (g := (mkF m 11 #[oR ax, oR ay, oi 3] [(.ref ax), (.int (3 : Int32))])) rfl rfl (hb hby d26_11) t (by rw [len_of S19 M19]; exact k)) ?_
  have hc20 : ¬ ((3 : Int32) < (3 : Int32)) := by decide
  refine ow (oT s₁ m 32 #[oR ax, oR ay, oi 3] []) (fun _ k => XS.icmpYes X0.here hx rfl (pc0 := 12) (pc' := 32) rfl (hb hby d26_12) rfl (flt hc20).2.1 (by decide) (by decide) k) ?_
  refine ow (oT s₁ m 33 #[oR ax, oR ay, oi 3] [(.int (1 : Int32))]) (fun _ k => XS.iconst X0.here hx rfl (hb hby d26_32) k) ?_
  obtain ⟨fs, hr, hrun, hended, hW, hsame⟩ := X0.leave (v := some (.int (1 : Int32))) (fun h => by rw [Bd.returns] at h; cases h)
  refine ⟨_, _, ?_, hP _ _ hrun hended ⟨_, _, rfl, ?_, ⟨_, rfl⟩, hW, hsame.mono (by decide) (by decide)⟩⟩
  · exact retN X0 hx (t := .boolean) Bd.returns (by simp) (hb hby d26_33) hr
  ·
   show Qrle_3 Z ax ka ay kb w0 w1 w2 h0 n0 _ s₁.heap _
   rw [e0]
   exact ⟨rfl, N0, rfl⟩
theorem pd_4 : parseMethodDescriptor "([B[B)Z" = some ⟨[(.array .byte), (.array .byte)], some .boolean⟩ := by decide +kernel
theorem d25_0 : decode jdk_42_method_66_code 0 = .ok (.aload_n 0, 1) := by decide +kernel
theorem d25_1 : decode jdk_42_method_66_code 1 = .ok (.aload_n 1, 1) := by decide +kernel
theorem d25_2 : decode jdk_42_method_66_code 2 = .ok (.if_acmp .ne 5, 3) := by decide +kernel
theorem d25_7 : decode jdk_42_method_66_code 7 = .ok (.aload_n 1, 1) := by decide +kernel
theorem d25_8 : decode jdk_42_method_66_code 8 = .ok (.instanceof 10, 3) := by decide +kernel
theorem d25_11 : decode jdk_42_method_66_code 11 = .ok (.ifCond .eq 43, 3) := by decide +kernel
theorem d25_14 : decode jdk_42_method_66_code 14 = .ok (.aload_n 1, 1) := by decide +kernel
theorem d25_15 : decode jdk_42_method_66_code 15 = .ok (.checkcast 10, 3) := by decide +kernel
theorem d25_18 : decode jdk_42_method_66_code 18 = .ok (.astore_n 2, 1) := by decide +kernel
theorem d25_19 : decode jdk_42_method_66_code 19 = .ok (.getstatic 38, 3) := by decide +kernel
theorem d25_22 : decode jdk_42_method_66_code 22 = .ok (.ifCond .eq 14, 3) := by decide +kernel
theorem d25_25 : decode jdk_42_method_66_code 25 = .ok (.aload_n 0, 1) := by decide +kernel
theorem d25_26 : decode jdk_42_method_66_code 26 = .ok (.getfield 15, 3) := by decide +kernel
theorem d25_29 : decode jdk_42_method_66_code 29 = .ok (.aload_n 2, 1) := by decide +kernel
theorem d25_30 : decode jdk_42_method_66_code 30 = .ok (.getfield 15, 3) := by decide +kernel
theorem d25_33 : decode jdk_42_method_66_code 33 = .ok (.if_icmp .ne 21, 3) := by decide +kernel
theorem d25_36 : decode jdk_42_method_66_code 36 = .ok (.aload_n 0, 1) := by decide +kernel
theorem d25_37 : decode jdk_42_method_66_code 37 = .ok (.getfield 9, 3) := by decide +kernel
theorem d25_40 : decode jdk_42_method_66_code 40 = .ok (.aload_n 2, 1) := by decide +kernel
theorem d25_41 : decode jdk_42_method_66_code 41 = .ok (.getfield 9, 3) := by decide +kernel
theorem d25_44 : decode jdk_42_method_66_code 44 = .ok (.invokestatic 541, 3) := by decide +kernel
theorem d25_47 : decode jdk_42_method_66_code 47 = .ok (.ifCond .eq 7, 3) := by decide +kernel
theorem d25_50 : decode jdk_42_method_66_code 50 = .ok (.iconst 1, 1) := by decide +kernel
theorem d25_51 : decode jdk_42_method_66_code 51 = .ok (.goto 4, 3) := by decide +kernel
theorem d25_55 : decode jdk_42_method_66_code 55 = .ok (.ireturn, 1) := by decide +kernel
theorem pn_25 : plainName "java/lang/String" = true := by first | (simp [plainName, overriddenIn]; done) | decide +kernel
theorem ef_rse_gen (m : MethodId) (x0 : Addr) (x1 : Addr) : entryFrame m #[(.ref x0), (.ref x1)] 3 = mkF m 0 #[.val (.ref x0), .val (.ref x1), .unset] [] := by first | (simp [entryFrame, mkF, argsToLocals, Value.category]; done) | rfl
def Qrse_gen (Z : State) (a1 : Addr) (a2 : Addr) (zc : Int32) (ax : Addr) (ka : ClassId) (zn : Int32) (vs : List Value) (ay : Addr) (kb : ClassId) (h0 : Heap) (n0 : Nat) (v : Option Value) (h : Heap) (L : List Loc) : Prop := (v = some (.int (1 : Int32))) ∧ (Fr n0 L) ∧ (h = h0)
set_option maxRecDepth 65536 in
set_option maxHeartbeats 40000000 in
theorem rse_gen (l : Launch) (Z : State) (a0 : Array Value) (hw : ∀ d ∈ tables_1, d.before a0 Z = true) (ws : List Jvm.Cond) (a1 : Addr) (a2 : Addr) (zc : Int32) (ax : Addr) (ka : ClassId) (zn : Int32) (vs : List Value) (ay : Addr) (kb : ClassId) (h0 : Heap) (n0 : Nat) (Z0 : n0 ≤ h0.size) (pr1 : Sta Z h0 oS0 oS4 "Z" (.int zc)) (hzc : ¬ zc = (0 : Int32)) (pr2 : @Ne Nat a1 a2) (pr3 : Exa Z h0 a1 oS0) (pr4 : Fld Z h0 a1 oS0 "value" "[B" (.ref ax)) (pr5 : Fld Z h0 a1 oS0 "coder" "B" (.int (0 : Int32))) (pr6 : Exa Z h0 a2 oS0) (pr7 : Fld Z h0 a2 oS0 "value" "[B" (.ref ay)) (pr8 : Fld Z h0 a2 oS0 "coder" "B" (.int (0 : Int32))) (pr9 : Arv Z h0 ax ka .byte zn vs (.int (0 : Int32))) (pr10 : Arv Z h0 ay kb .byte zn vs (.int (0 : Int32))) (hsh1 : own_sh zn vs) :
    MetFree l oM1 (head1 (Jvm.Cond.code oM1 jdk_42_method_66_code 3 (some .boolean) :: ws) ({ frames := 1, cells := 0, slots := 0, locals := 14 } : Room)) (fun a U => a = #[(.ref a1), (.ref a2)] ∧ Z.Warmed39 U.vm ∧ U.heap = h0) (fun _ _ _ _ _ => True) (fun _ U o U' => ∃ v L, o = .returned v ∧ Qrse_gen Z a1 a2 zc ax ka zn vs ay kb h0 n0 v U'.heap L ∧ FrameEnd U o U' L ({ frames := 1, cells := 0, slots := 0, locals := 14 } : Room).cells ({ frames := 1, cells := 0, slots := 0, locals := 14 } : Room).slots) := by
  refine MetFree.of_bodySF (plainFor_of_name pn_25) hisR ?_
  intro p e s m args below meth c s₁ Bd hml0 hP0 hK
  obtain ⟨rfl, hZ, hh⟩ := hP0
  have hx := Bd.exec
  have hby := Bd.bytes
  have hml : c.maxLocals = 3 := hml0
  have hown : s.vm.findClass oS0 = some m.cls := findClass_of_methodNamed Bd.named
  have hnm := (name_of_methodNamed Bd.named Bd.method).1
  have X0 : Stand p l e ({ frames := 1, cells := 0, slots := 0, locals := 14 } : Room) s m #[(.ref a1), (.ref a2)] below meth c s₁ [] 0 0 := Stand.of_body Bd
  have e0 : s₁.heap = h0 := by rw [← hh, Bd.state]; rfl
  have N0 := Fr.nil n0
  refine own_fin (st' := s₁.setTop (mkF m 0 #[oR a1, oR a2, .unset] [])) (fun _ k => castTop (ef_rse_gen m a1 a2) k) (fun P hP => ?_)
  have lt_a1 : @LT.lt Nat _ a1 h0.size := pr3.lt
  have lt_a2 : @LT.lt Nat _ a2 h0.size := pr6.lt
  have lt_ax : @LT.lt Nat _ ax h0.size := pr9.lt
  have lt_ay : @LT.lt Nat _ ay h0.size := pr10.lt
  refine ow (oT s₁ m 1 #[oR a1, oR a2, .unset] [(.ref a1)]) (fun _ k => XS.aloadN X0.here hx rfl (hb hby d25_0) rfl rfl k) ?_
  refine ow (oT s₁ m 2 #[oR a1, oR a2, .unset] [(.ref a2), (.ref a1)]) (fun _ k => XS.aloadN X0.here hx rfl (hb hby d25_1) rfl rfl k) ?_
  have hc1 : ¬ (a1 = a2) := (fun q_ => (own_ne' (by assumption)) q_)
  refine ow (oT s₁ m 7 #[oR a1, oR a2, .unset] []) (fun _ k => Jvm.RoadKit.acmp (g := (mkF m 2 #[oR a1, oR a2, .unset] [(.ref a2), (.ref a1)])) X0 hx rfl rfl rfl (pc0 := 2) (pc' := 7) (same := false) rfl (hb hby d25_2) rfl (decide_eq_false fun q_ => hc1 (Value.ref.inj q_)) (by decide) (by decide) k) ?_
  refine ow (oT s₁ m 8 #[oR a1, oR a2, .unset] [(.ref a2)]) (fun _ k => XS.aloadN X0.here hx rfl (hb hby d25_7) rfl rfl k) ?_
  obtain ⟨T2, X2, e2, st2⟩ := instY X0 hx hZ hown (own_hw hw 9) e0 (Ins.self pr6) (g := (mkF m 8 #[oR a1, oR a2, .unset] [(.ref a2)])) rfl rfl (hb hby d25_8)
  refine ow (oT T2 m 11 #[oR a1, oR a2, .unset] [(.int (1 : Int32))]) (st2) ?_
  have hc3 : ¬ ((1 : Int32) = (0 : Int32)) := by decide
  refine ow (oT T2 m 14 #[oR a1, oR a2, .unset] []) (fun _ k => XS.ifNo X2.here hx rfl (hb hby d25_11) rfl ((if0 _ _).trans (feq hc3).1) k) ?_
  refine ow (oT T2 m 15 #[oR a1, oR a2, .unset] [(.ref a2)]) (fun _ k => XS.aloadN X2.here hx rfl (hb hby d25_14) rfl rfl k) ?_
  obtain ⟨T4, X4, e4, st4⟩ := castY X2 hx hZ hown (own_hw hw 9) e2 (Ins.self pr6) (g := (mkF m 15 #[oR a1, oR a2, .unset] [(.ref a2)])) rfl rfl (hb hby d25_15)
  refine ow (oT T4 m 18 #[oR a1, oR a2, .unset] [(.ref a2)]) (st4) ?_
  refine ow (oT T4 m 19 #[oR a1, oR a2, oR a2] []) (fun _ k => XS.astoreN X4.here hx rfl (hb hby d25_18) rfl rfl (l' := #[oR a1, oR a2, oR a2]) rfl k) ?_
  obtain ⟨T5, X5, e5, st5⟩ := getS2 X4 hx hZ hown (host := "") (Or.inl (own_hw hw 4)) Via.refl e4 pr1 (g := (mkF m 19 #[oR a1, oR a2, oR a2] [])) rfl (hb hby d25_19)
  refine ow (oT T5 m 22 #[oR a1, oR a2, oR a2] [(.int zc)]) (st5) ?_
  have hc6 : ¬ (zc = (0 : Int32)) := hzc
  refine ow (oT T5 m 25 #[oR a1, oR a2, oR a2] []) (fun _ k => XS.ifNo X5.here hx rfl (hb hby d25_22) rfl ((if0 _ _).trans (feq hc6).1) k) ?_
  refine ow (oT T5 m 26 #[oR a1, oR a2, oR a2] [(.ref a1)]) (fun _ k => XS.aloadN X5.here hx rfl (hb hby d25_25) rfl rfl k) ?_
  obtain ⟨T7, X7, e7, st7⟩ := getF X5 hx hZ hown (host := "") (Or.inl (own_hw hw 24)) Via.refl e5 pr5 (g := (mkF m 26 #[oR a1, oR a2, oR a2] [(.ref a1)])) rfl rfl (hb hby d25_26)
  refine ow (oT T7 m 29 #[oR a1, oR a2, oR a2] [(.int (0 : Int32))]) (st7) ?_
  refine ow (oT T7 m 30 #[oR a1, oR a2, oR a2] [(.ref a2), (.int (0 : Int32))]) (fun _ k => XS.aloadN X7.here hx rfl (hb hby d25_29) rfl rfl k) ?_
  obtain ⟨T8, X8, e8, st8⟩ := getF X7 hx hZ hown (host := "") (Or.inl (own_hw hw 24)) Via.refl e7 pr8 (g := (mkF m 30 #[oR a1, oR a2, oR a2] [(.ref a2), (.int (0 : Int32))])) rfl rfl (hb hby d25_30)
  refine ow (oT T8 m 33 #[oR a1, oR a2, oR a2] [(.int (0 : Int32)), (.int (0 : Int32))]) (st8) ?_
  have hc9 : (0 : Int32) = (0 : Int32) := by decide
  refine ow (oT T8 m 36 #[oR a1, oR a2, oR a2] []) (fun _ k => XS.icmpNo X8.here hx rfl (hb hby d25_33) rfl (teq hc9).2 k) ?_
  rcases hsh1 with ⟨hn, hv⟩ | ⟨w0, hn, hv⟩ | ⟨w0, w1, hn, hv⟩ | ⟨w0, w1, w2, hn, hv⟩
  ·
   have v10 : Arv Z h0 ax ka .byte (0 : Int32) [] (.int (0 : Int32)) := by have q_ := pr9; rw [hn, hv] at q_; exact q_
   have v11 : Arv Z h0 ay kb .byte (0 : Int32) [] (.int (0 : Int32)) := by have q_ := pr10; rw [hn, hv] at q_; exact q_
   refine ow (oT T8 m 37 #[oR a1, oR a2, oR a2] [(.ref a1)]) (fun _ k => XS.aloadN X8.here hx rfl (hb hby d25_36) rfl rfl k) ?_
   obtain ⟨T12, X12, e12, st12⟩ := getF X8 hx hZ hown (host := "") (Or.inl (own_hw hw 22)) Via.refl e8 pr4 (g := (mkF m 37 #[oR a1, oR a2, oR a2] [(.ref a1)])) rfl rfl (hb hby d25_37)
   refine ow (oT T12 m 40 #[oR a1, oR a2, oR a2] [(.ref ax)]) (st12) ?_
   refine ow (oT T12 m 41 #[oR a1, oR a2, oR a2] [(.ref a2), (.ref ax)]) (fun _ k => XS.aloadN X12.here hx rfl (hb hby d25_40) rfl rfl k) ?_
   obtain ⟨T13, X13, e13, st13⟩ := getF X12 hx hZ hown (host := "") (Or.inl (own_hw hw 22)) Via.refl e12 pr7 (g := (mkF m 41 #[oR a1, oR a2, oR a2] [(.ref a2), (.ref ax)])) rfl rfl (hb hby d25_41)
   refine ow (oT T13 m 44 #[oR a1, oR a2, oR a2] [(.ref ay), (.ref ax)]) (st13) ?_
   obtain ⟨_, _, ⟨T14, LC14, kC14, nC14⟩, -, X14, ⟨Lc14, hQ14, lq14, yq14, zq14⟩, st14⟩ := Jvm.LawKit.callS X13 hx (y := oM7) hown (mvT hZ (own_hw hw 151)) (mvT hZ (own_hw hw 152)) (mvT hZ (own_hw hw 7)) (mvT hZ (own_hw hw 153)) (by decide) (backOf (W := 0) (rle_0 l Z a0 hw [] ax ka ay kb h0 n0 (by omega) v10 v11) hZ (own_hw hw 153) (own_hw hw 7) (by decide) (by decide)) (g := (mkF m 44 #[oR a1, oR a2, oR a2] [(.ref ay), (.ref ax)])) rfl hml.symm (argsL := [(.ref ax), (.ref ay)]) (rest := []) (lenOf pd_4 rfl) rfl (Nat.le_of_eq rfl) (hb hby d25_44) (fun _ _ => ⟨rfl, e13, (by decide : 0 + 0 ≤ _), (by decide : 0 + 0 ≤ _)⟩)
   dsimp only [Pt.U, Pt.locs, Pt.cells, Pt.slots] at X14 lq14 yq14 zq14 st14 hQ14
   subst lq14 yq14 zq14
   obtain ⟨rfl, Nq14, eq14⟩ := hQ14
   have N14 := Fr.app N0 Nq14
   refine ow (oT T14 m 47 #[oR a1, oR a2, oR a2] [(.int (1 : Int32))]) (fun t k => st14 t k) ?_
   have hc15 : ¬ ((1 : Int32) = (0 : Int32)) := by decide
   refine ow (oT T14 m 50 #[oR a1, oR a2, oR a2] []) (fun _ k => XS.ifNo X14.here hx rfl (hb hby d25_47) rfl ((if0 _ _).trans (feq hc15).1) k) ?_
   refine ow (oT T14 m 51 #[oR a1, oR a2, oR a2] [(.int (1 : Int32))]) (fun _ k => XS.iconst X14.here hx rfl (hb hby d25_50) k) ?_
   refine ow (oT T14 m 55 #[oR a1, oR a2, oR a2] [(.int (1 : Int32))]) (fun _ k => XS.goto X14.here hx rfl (pc0 := 51) (pc' := 55) rfl (hb hby d25_51) (by decide) (by decide) k) ?_
   obtain ⟨fs, hr, hrun, hended, hW, hsame⟩ := X14.leave (v := some (.int (1 : Int32))) (fun h => by rw [Bd.returns] at h; cases h)
   refine ⟨_, _, ?_, hP _ _ hrun hended ⟨_, _, rfl, ?_, ⟨_, rfl⟩, hW, hsame.mono (by decide) (by decide)⟩⟩
   · exact retN X14 hx (t := .boolean) Bd.returns (by simp) (hb hby d25_55) hr
   ·
    show Qrse_gen Z a1 a2 zc ax ka zn vs ay kb h0 n0 _ T14.heap _
    rw [eq14]
    exact ⟨rfl, N14, rfl⟩
  ·
   have v17 : Arv Z h0 ax ka .byte (1 : Int32) [(.int w0)] (.int (0 : Int32)) := by have q_ := pr9; rw [hn, hv] at q_; exact q_
   have v18 : Arv Z h0 ay kb .byte (1 : Int32) [(.int w0)] (.int (0 : Int32)) := by have q_ := pr10; rw [hn, hv] at q_; exact q_
   refine ow (oT T8 m 37 #[oR a1, oR a2, oR a2] [(.ref a1)]) (fun _ k => XS.aloadN X8.here hx rfl (hb hby d25_36) rfl rfl k) ?_
   obtain ⟨T19, X19, e19, st19⟩ := getF X8 hx hZ hown (host := "") (Or.inl (own_hw hw 22)) Via.refl e8 pr4 (g := (mkF m 37 #[oR a1, oR a2, oR a2] [(.ref a1)])) rfl rfl (hb hby d25_37)
   refine ow (oT T19 m 40 #[oR a1, oR a2, oR a2] [(.ref ax)]) (st19) ?_
   refine ow (oT T19 m 41 #[oR a1, oR a2, oR a2] [(.ref a2), (.ref ax)]) (fun _ k => XS.aloadN X19.here hx rfl (hb hby d25_40) rfl rfl k) ?_
   obtain ⟨T20, X20, e20, st20⟩ := getF X19 hx hZ hown (host := "") (Or.inl (own_hw hw 22)) Via.refl e19 pr7 (g := (mkF m 41 #[oR a1, oR a2, oR a2] [(.ref a2), (.ref ax)])) rfl rfl (hb hby d25_41)
   refine ow (oT T20 m 44 #[oR a1, oR a2, oR a2] [(.ref ay), (.ref ax)]) (st20) ?_
   obtain ⟨_, _, ⟨T21, LC21, kC21, nC21⟩, -, X21, ⟨Lc21, hQ21, lq21, yq21, zq21⟩, st21⟩ := Jvm.LawKit.callS X20 hx (y := oM7) hown (mvT hZ (own_hw hw 151)) (mvT hZ (own_hw hw 152)) (mvT hZ (own_hw hw 7)) (mvT hZ (own_hw hw 153)) (by decide) (backOf (W := 0) (rle_1 l Z a0 hw [] ax ka ay kb w0 h0 n0 (by omega) v17 v18) hZ (own_hw hw 153) (own_hw hw 7) (by decide) (by decide)) (g := (mkF m 44 #[oR a1, oR a2, oR a2] [(.ref ay), (.ref ax)])) rfl hml.symm (argsL := [(.ref ax), (.ref ay)]) (rest := []) (lenOf pd_4 rfl) rfl (Nat.le_of_eq rfl) (hb hby d25_44) (fun _ _ => ⟨rfl, e20, (by decide : 0 + 0 ≤ _), (by decide : 0 + 0 ≤ _)⟩)
   dsimp only [Pt.U, Pt.locs, Pt.cells, Pt.slots] at X21 lq21 yq21 zq21 st21 hQ21
   subst lq21 yq21 zq21
   obtain ⟨rfl, Nq21, eq21⟩ := hQ21
   have N21 := Fr.app N0 Nq21
   refine ow (oT T21 m 47 #[oR a1, oR a2, oR a2] [(.int (1 : Int32))]) (fun t k => st21 t k) ?_
   have hc22 : ¬ ((1 : Int32) = (0 : Int32)) := by decide
   refine ow (oT T21 m 50 #[oR a1, oR a2, oR a2] []) (fun _ k => XS.ifNo X21.here hx rfl (hb hby d25_47) rfl ((if0 _ _).trans (feq hc22).1) k) ?_
   refine ow (oT T21 m 51 #[oR a1, oR a2, oR a2] [(.int (1 : Int32))]) (fun _ k => XS.iconst X21.here hx rfl (hb hby d25_50) k) ?_
   refine ow (oT T21 m 55 #[oR a1, oR a2, oR a2] [(.int (1 : Int32))]) (fun _ k => XS.goto X21.here hx rfl (pc0 := 51) (pc' := 55) rfl (hb hby d25_51) (by decide) (by decide) k) ?_
   obtain ⟨fs, hr, hrun, hended, hW, hsame⟩ := X21.leave (v := some (.int (1 : Int32))) (fun h => by rw [Bd.returns] at h; cases h)
   refine ⟨_, _, ?_, hP _ _ hrun hended ⟨_, _, rfl, ?_, ⟨_, rfl⟩, hW, hsame.mono (by decide) (by decide)⟩⟩
   · exact retN X21 hx (t := .boolean) Bd.returns (by simp) (hb hby d25_55) hr
   ·
    show Qrse_gen Z a1 a2 zc ax ka zn vs ay kb h0 n0 _ T21.heap _
    rw [eq21]
    exact ⟨rfl, N21, rfl⟩
  ·
   have v24 : Arv Z h0 ax ka .byte (2 : Int32) [(.int w0), (.int w1)] (.int (0 : Int32)) := by have q_ := pr9; rw [hn, hv] at q_; exact q_
   have v25 : Arv Z h0 ay kb .byte (2 : Int32) [(.int w0), (.int w1)] (.int (0 : Int32)) := by have q_ := pr10; rw [hn, hv] at q_; exact q_
   refine ow (oT T8 m 37 #[oR a1, oR a2, oR a2] [(.ref a1)]) (fun _ k => XS.aloadN X8.here hx rfl (hb hby d25_36) rfl rfl k) ?_
   obtain ⟨T26, X26, e26, st26⟩ := getF X8 hx hZ hown (host := "") (Or.inl (own_hw hw 22)) Via.refl e8 pr4 (g := (mkF m 37 #[oR a1, oR a2, oR a2] [(.ref a1)])) rfl rfl (hb hby d25_37)
   refine ow (oT T26 m 40 #[oR a1, oR a2, oR a2] [(.ref ax)]) (st26) ?_
   refine ow (oT T26 m 41 #[oR a1, oR a2, oR a2] [(.ref a2), (.ref ax)]) (fun _ k => XS.aloadN X26.here hx rfl (hb hby d25_40) rfl rfl k) ?_
   obtain ⟨T27, X27, e27, st27⟩ := getF X26 hx hZ hown (host := "") (Or.inl (own_hw hw 22)) Via.refl e26 pr7 (g := (mkF m 41 #[oR a1, oR a2, oR a2] [(.ref a2), (.ref ax)])) rfl rfl (hb hby d25_41)
   refine ow (oT T27 m 44 #[oR a1, oR a2, oR a2] [(.ref ay), (.ref ax)]) (st27) ?_
   obtain ⟨_, _, ⟨T28, LC28, kC28, nC28⟩, -, X28, ⟨Lc28, hQ28, lq28, yq28, zq28⟩, st28⟩ := Jvm.LawKit.callS X27 hx (y := oM7) hown (mvT hZ (own_hw hw 151)) (mvT hZ (own_hw hw 152)) (mvT hZ (own_hw hw 7)) (mvT hZ (own_hw hw 153)) (by decide) (backOf (W := 0) (rle_2 l Z a0 hw [] ax ka ay kb w0 w1 h0 n0 (by omega) v24 v25) hZ (own_hw hw 153) (own_hw hw 7) (by decide) (by decide)) (g := (mkF m 44 #[oR a1, oR a2, oR a2] [(.ref ay), (.ref ax)])) rfl hml.symm (argsL := [(.ref ax), (.ref ay)]) (rest := []) (lenOf pd_4 rfl) rfl (Nat.le_of_eq rfl) (hb hby d25_44) (fun _ _ => ⟨rfl, e27, (by decide : 0 + 0 ≤ _), (by decide : 0 + 0 ≤ _)⟩)
   dsimp only [Pt.U, Pt.locs, Pt.cells, Pt.slots] at X28 lq28 yq28 zq28 st28 hQ28
   subst lq28 yq28 zq28
   obtain ⟨rfl, Nq28, eq28⟩ := hQ28
   have N28 := Fr.app N0 Nq28
   refine ow (oT T28 m 47 #[oR a1, oR a2, oR a2] [(.int (1 : Int32))]) (fun t k => st28 t k) ?_
   have hc29 : ¬ ((1 : Int32) = (0 : Int32)) := by decide
   refine ow (oT T28 m 50 #[oR a1, oR a2, oR a2] []) (fun _ k => XS.ifNo X28.here hx rfl (hb hby d25_47) rfl ((if0 _ _).trans (feq hc29).1) k) ?_
   refine ow (oT T28 m 51 #[oR a1, oR a2, oR a2] [(.int (1 : Int32))]) (fun _ k => XS.iconst X28.here hx rfl (hb hby d25_50) k) ?_
   refine ow (oT T28 m 55 #[oR a1, oR a2, oR a2] [(.int (1 : Int32))]) (fun _ k => XS.goto X28.here hx rfl (pc0 := 51) (pc' := 55) rfl (hb hby d25_51) (by decide) (by decide) k) ?_
   obtain ⟨fs, hr, hrun, hended, hW, hsame⟩ := X28.leave (v := some (.int (1 : Int32))) (fun h => by rw [Bd.returns] at h; cases h)
   refine ⟨_, _, ?_, hP _ _ hrun hended ⟨_, _, rfl, ?_, ⟨_, rfl⟩, hW, hsame.mono (by decide) (by decide)⟩⟩
   · exact retN X28 hx (t := .boolean) Bd.returns (by simp) (hb hby d25_55) hr
   ·
    show Qrse_gen Z a1 a2 zc ax ka zn vs ay kb h0 n0 _ T28.heap _
    rw [eq28]
    exact ⟨rfl, N28, rfl⟩
  ·
   have v31 : Arv Z h0 ax ka .byte (3 : Int32) [(.int w0), (.int w1), (.int w2)] (.int (0 : Int32)) := by have q_ := pr9; rw [hn, hv] at q_; exact q_
   have v32 : Arv Z h0 ay kb .byte (3 : Int32) [(.int w0), (.int w1), (.int w2)] (.int (0 : Int32)) := by have q_ := pr10; rw [hn, hv] at q_; exact q_
   refine ow (oT T8 m 37 #[oR a1, oR a2, oR a2] [(.ref a1)]) (fun _ k => XS.aloadN X8.here hx rfl (hb hby d25_36) rfl rfl k) ?_
   obtain ⟨T33, X33, e33, st33⟩ := getF X8 hx hZ hown (host := "") (Or.inl (own_hw hw 22)) Via.refl e8 pr4 (g := (mkF m 37 #[oR a1, oR a2, oR a2] [(.ref a1)])) rfl rfl (hb hby d25_37)
   refine ow (oT T33 m 40 #[oR a1, oR a2, oR a2] [(.ref ax)]) (st33) ?_
   refine ow (oT T33 m 41 #[oR a1, oR a2, oR a2] [(.ref a2), (.ref ax)]) (fun _ k => XS.aloadN X33.here hx rfl (hb hby d25_40) rfl rfl k) ?_
   obtain ⟨T34, X34, e34, st34⟩ := getF X33 hx hZ hown (host := "") (Or.inl (own_hw hw 22)) Via.refl e33 pr7 (g := (mkF m 41 #[oR a1, oR a2, oR a2] [(.ref a2), (.ref ax)])) rfl rfl (hb hby d25_41)
   refine ow (oT T34 m 44 #[oR a1, oR a2, oR a2] [(.ref ay), (.ref ax)]) (st34) ?_
   obtain ⟨_, _, ⟨T35, LC35, kC35, nC35⟩, -, X35, ⟨Lc35, hQ35, lq35, yq35, zq35⟩, st35⟩ := Jvm.LawKit.callS X34 hx (y := oM7) hown (mvT hZ (own_hw hw 151)) (mvT hZ (own_hw hw 152)) (mvT hZ (own_hw hw 7)) (mvT hZ (own_hw hw 153)) (by decide) (backOf (W := 0) (rle_3 l Z a0 hw [] ax ka ay kb w0 w1 w2 h0 n0 (by omega) v31 v32) hZ (own_hw hw 153) (own_hw hw 7) (by decide) (by decide)) (g := (mkF m 44 #[oR a1, oR a2, oR a2] [(.ref ay), (.ref ax)])) rfl hml.symm (argsL := [(.ref ax), (.ref ay)]) (rest := []) (lenOf pd_4 rfl) rfl (Nat.le_of_eq rfl) (hb hby d25_44) (fun _ _ => ⟨rfl, e34, (by decide : 0 + 0 ≤ _), (by decide : 0 + 0 ≤ _)⟩)
   dsimp only [Pt.U, Pt.locs, Pt.cells, Pt.slots] at X35 lq35 yq35 zq35 st35 hQ35
   subst lq35 yq35 zq35
   obtain ⟨rfl, Nq35, eq35⟩ := hQ35
   have N35 := Fr.app N0 Nq35
   refine ow (oT T35 m 47 #[oR a1, oR a2, oR a2] [(.int (1 : Int32))]) (fun t k => st35 t k) ?_
   have hc36 : ¬ ((1 : Int32) = (0 : Int32)) := by decide
   refine ow (oT T35 m 50 #[oR a1, oR a2, oR a2] []) (fun _ k => XS.ifNo X35.here hx rfl (hb hby d25_47) rfl ((if0 _ _).trans (feq hc36).1) k) ?_
   refine ow (oT T35 m 51 #[oR a1, oR a2, oR a2] [(.int (1 : Int32))]) (fun _ k => XS.iconst X35.here hx rfl (hb hby d25_50) k) ?_
   refine ow (oT T35 m 55 #[oR a1, oR a2, oR a2] [(.int (1 : Int32))]) (fun _ k => XS.goto X35.here hx rfl (pc0 := 51) (pc' := 55) rfl (hb hby d25_51) (by decide) (by decide) k) ?_
   obtain ⟨fs, hr, hrun, hended, hW, hsame⟩ := X35.leave (v := some (.int (1 : Int32))) (fun h => by rw [Bd.returns] at h; cases h)
   refine ⟨_, _, ?_, hP _ _ hrun hended ⟨_, _, rfl, ?_, ⟨_, rfl⟩, hW, hsame.mono (by decide) (by decide)⟩⟩
   · exact retN X35 hx (t := .boolean) Bd.returns (by simp) (hb hby d25_55) hr
   ·
    show Qrse_gen Z a1 a2 zc ax ka zn vs ay kb h0 n0 _ T35.heap _
    rw [eq35]
    exact ⟨rfl, N35, rfl⟩
theorem d2_0 : decode jdk_43_method_3_code 0 = .ok (.iload_n 0, 1) := by decide +kernel
theorem d2_1 : decode jdk_43_method_3_code 1 = .ok (.sipush 255, 3) := by decide +kernel
theorem d2_4 : decode jdk_43_method_3_code 4 = .ok (.if_icmp .gt 7, 3) := by decide +kernel
theorem d2_7 : decode jdk_43_method_3_code 7 = .ok (.iconst 1, 1) := by decide +kernel
theorem d2_8 : decode jdk_43_method_3_code 8 = .ok (.goto 4, 3) := by decide +kernel
theorem d2_12 : decode jdk_43_method_3_code 12 = .ok (.ireturn, 1) := by decide +kernel
theorem pn_2 : plainName "java/lang/StringLatin1" = true := by first | (simp [plainName, overriddenIn]; done) | decide +kernel
theorem ef_rm2 (m : MethodId) (x0 : Int32) : entryFrame m #[(.int x0)] 1 = mkF m 0 #[.val (.int x0)] [] := by first | (simp [entryFrame, mkF, argsToLocals, Value.category]; done) | rfl
def Qrm2 (Z : State) (u0 : Int32) (h0 : Heap) (n0 : Nat) (v : Option Value) (h : Heap) (L : List Loc) : Prop := (v = some (.int (1 : Int32))) ∧ (Fr n0 L) ∧ (h = h0)
set_option maxRecDepth 65536 in
set_option maxHeartbeats 40000000 in
theorem rm2 (l : Launch) (Z : State) (a0 : Array Value) (hw : ∀ d ∈ tables_1, d.before a0 Z = true) (ws : List Jvm.Cond) (u0 : Int32) (h0 : Heap) (n0 : Nat) (Z0 : n0 ≤ h0.size) (hl_u0 : own_lat u0) :
    MetFree l oM25 (head1 (Jvm.Cond.code oM25 jdk_43_method_3_code 1 (some .boolean) :: ws) ({ frames := 0, cells := 0, slots := 0, locals := 0 } : Room)) (fun a U => a = #[(.int u0)] ∧ Z.Warmed39 U.vm ∧ U.heap = h0) (fun _ _ _ _ _ => True) (fun _ U o U' => ∃ v L, o = .returned v ∧ Qrm2 Z u0 h0 n0 v U'.heap L ∧ FrameEnd U o U' L ({ frames := 0, cells := 0, slots := 0, locals := 0 } : Room).cells ({ frames := 0, cells := 0, slots := 0, locals := 0 } : Room).slots) := by
  refine MetFree.of_bodySF (plainFor_of_name pn_2) hisR ?_
  intro p e s m args below meth c s₁ Bd hml0 hP0 hK
  obtain ⟨rfl, hZ, hh⟩ := hP0
  have hx := Bd.exec
  have hby := Bd.bytes
  have hml : c.maxLocals = 1 := hml0
  have hown : s.vm.findClass oS16 = some m.cls := findClass_of_methodNamed Bd.named
  have hnm := (name_of_methodNamed Bd.named Bd.method).1
  have X0 : Stand p l e ({ frames := 0, cells := 0, slots := 0, locals := 0 } : Room) s m #[(.int u0)] below meth c s₁ [] 0 0 := Stand.of_body Bd
  have e0 : s₁.heap = h0 := by rw [← hh, Bd.state]; rfl
  have N0 := Fr.nil n0
  refine own_fin (st' := s₁.setTop (mkF m 0 #[oi u0] [])) (fun _ k => castTop (ef_rm2 m u0) k) (fun P hP => ?_)
  refine ow (oT s₁ m 1 #[oi u0] [(.int u0)]) (fun _ k => XS.iloadN X0.here hx rfl (hb hby d2_0) rfl k) ?_
  refine ow (oT s₁ m 4 #[oi u0] [(.int (255 : Int32)), (.int u0)]) (fun _ k => XS.sipush X0.here hx rfl (hb hby d2_1) k) ?_
  have hc1 : ¬ ((255 : Int32) < u0) := (own_lat_le hl_u0)
  refine ow (oT s₁ m 7 #[oi u0] []) (fun _ k => XS.icmpNo X0.here hx rfl (hb hby d2_4) rfl (flt hc1).2.2.1 k) ?_
  refine ow (oT s₁ m 8 #[oi u0] [(.int (1 : Int32))]) (fun _ k => XS.iconst X0.here hx rfl (hb hby d2_7) k) ?_
  refine ow (oT s₁ m 12 #[oi u0] [(.int (1 : Int32))]) (fun _ k => XS.goto X0.here hx rfl (pc0 := 8) (pc' := 12) rfl (hb hby d2_8) (by decide) (by decide) k) ?_
  obtain ⟨fs, hr, hrun, hended, hW, hsame⟩ := X0.leave (v := some (.int (1 : Int32))) (fun h => by rw [Bd.returns] at h; cases h)
  refine ⟨_, _, ?_, hP _ _ hrun hended ⟨_, _, rfl, ?_, ⟨_, rfl⟩, hW, hsame.mono (by decide) (by decide)⟩⟩
  · exact retN X0 hx (t := .boolean) Bd.returns (by simp) (hb hby d2_12) hr
  ·
   show Qrm2 Z u0 h0 n0 _ s₁.heap _
   rw [e0]
   exact ⟨rfl, N0, rfl⟩
theorem d3_0 : decode jdk_43_method_46_code 0 = .ok (.iconst 1, 1) := by decide +kernel
theorem d3_1 : decode jdk_43_method_46_code 1 = .ok (.newarray .byte, 2) := by decide +kernel
theorem d3_3 : decode jdk_43_method_46_code 3 = .ok (.dup, 1) := by decide +kernel
theorem d3_4 : decode jdk_43_method_46_code 4 = .ok (.iconst 0, 1) := by decide +kernel
theorem d3_5 : decode jdk_43_method_46_code 5 = .ok (.iload_n 0, 1) := by decide +kernel
theorem d3_6 : decode jdk_43_method_46_code 6 = .ok (.i2b, 1) := by decide +kernel
theorem d3_7 : decode jdk_43_method_46_code 7 = .ok (.bastore, 1) := by decide +kernel
theorem d3_8 : decode jdk_43_method_46_code 8 = .ok (.areturn, 1) := by decide +kernel
theorem pn_3 : plainName "java/lang/StringLatin1" = true := by first | (simp [plainName, overriddenIn]; done) | decide +kernel
theorem ef_rm3 (m : MethodId) (x0 : Int32) : entryFrame m #[(.int x0)] 1 = mkF m 0 #[.val (.int x0)] [] := by first | (simp [entryFrame, mkF, argsToLocals, Value.category]; done) | rfl
def Qrm3 (Z : State) (u0 : Int32) (h0 : Heap) (n0 : Nat) (v : Option Value) (h : Heap) (L : List Loc) : Prop := ∃ (r : Addr) (kr : ClassId), (v = some (.ref r)) ∧ (Fr n0 L) ∧ (Keep h0 h []) ∧ (Arv Z h r kr .byte (1 : Int32) [(.int (own_by u0))] (.int (0 : Int32))) ∧ (h0.size ≤ r)
set_option maxRecDepth 65536 in
set_option maxHeartbeats 40000000 in
theorem rm3 (l : Launch) (Z : State) (a0 : Array Value) (hw : ∀ d ∈ tables_1, d.before a0 Z = true) (ws : List Jvm.Cond) (u0 : Int32) (h0 : Heap) (n0 : Nat) (Z0 : n0 ≤ h0.size) (hl_u0 : own_lat u0) :
    MetFree l oM26 (head1 (Jvm.Cond.code oM26 jdk_43_method_46_code 1 (some (.array .byte)) :: ws) ({ frames := 0, cells := 1, slots := 1, locals := 0 } : Room)) (fun a U => a = #[(.int u0)] ∧ Z.Warmed39 U.vm ∧ U.heap = h0) (fun _ _ _ _ _ => True) (fun _ U o U' => ∃ v L, o = .returned v ∧ Qrm3 Z u0 h0 n0 v U'.heap L ∧ FrameEnd U o U' L ({ frames := 0, cells := 1, slots := 1, locals := 0 } : Room).cells ({ frames := 0, cells := 1, slots := 1, locals := 0 } : Room).slots) := by
  refine MetFree.of_bodySF (plainFor_of_name pn_3) hisR ?_
  intro p e s m args below meth c s₁ Bd hml0 hP0 hK
  obtain ⟨rfl, hZ, hh⟩ := hP0
  have hx := Bd.exec
  have hby := Bd.bytes
  have hml : c.maxLocals = 1 := hml0
  have hown : s.vm.findClass oS16 = some m.cls := findClass_of_methodNamed Bd.named
  have hnm := (name_of_methodNamed Bd.named Bd.method).1
  have X0 : Stand p l e ({ frames := 0, cells := 1, slots := 1, locals := 0 } : Room) s m #[(.int u0)] below meth c s₁ [] 0 0 := Stand.of_body Bd
  have e0 : s₁.heap = h0 := by rw [← hh, Bd.state]; rfl
  have N0 := Fr.nil n0
  refine own_fin (st' := s₁.setTop (mkF m 0 #[oi u0] [])) (fun _ k => castTop (ef_rm3 m u0) k) (fun P hP => ?_)
  refine ow (oT s₁ m 1 #[oi u0] [(.int (1 : Int32))]) (fun _ k => XS.iconst X0.here hx rfl (hb hby d3_0) k) ?_
  obtain ⟨T1, h1, k1, X1, e1, E1, A1, st1⟩ := newP X0 hx hZ (own_hw hw 14) e0 (g := (mkF m 1 #[oi u0] [(.int (1 : Int32))])) rfl (hb hby d3_1) rfl (by decide) (cap := 1) (by decide) (by decide) (by decide) (by decide)
  obtain ⟨b1, g1⟩ : ∃ z, z = h0.size := ⟨_, rfl⟩
  rw [← g1] at A1 st1
  have sz1 : h0.size ≤ h1.size := E1.1
  have lt1 : @LT.lt Nat _ b1 h1.size := A1.lt
  have v1 : Arv Z h1 b1 k1 .byte (1 : Int32) [(.int (0 : Int32))] (.int (0 : Int32)) := (Arv.new A1 (by decide)).pad (pad_rep [] (.int (0 : Int32)) 1)
  refine ow (oT T1 m 3 #[oi u0] [(.ref b1)]) (st1) ?_
  refine ow (oT T1 m 4 #[oi u0] [(.ref b1), (.ref b1)]) (fun _ k => XS.dup X1.here hx rfl (hb hby d3_3) rfl rfl k) ?_
  refine ow (oT T1 m 5 #[oi u0] [(.int (0 : Int32)), (.ref b1), (.ref b1)]) (fun _ k => XS.iconst X1.here hx rfl (hb hby d3_4) k) ?_
  refine ow (oT T1 m 6 #[oi u0] [(.int u0), (.int (0 : Int32)), (.ref b1), (.ref b1)]) (fun _ k => XS.iloadN X1.here hx rfl (hb hby d3_5) rfl k) ?_
  refine ow (oT T1 m 7 #[oi u0] [(.int u0.toInt8.toInt32), (.int (0 : Int32)), (.ref b1), (.ref b1)]) (fun _ k => XS.i2b X1.here hx rfl (hb hby d3_6) rfl k) ?_
  obtain ⟨cl2, Ar2, qc2, S2, M2, H2, G2⟩ := id v1
  have hin2 : ¬ ((0 : Int32) < 0 ∨ cl2.slots.size ≤ ((0 : Int32)).toNatClampNeg) := (inb_of S2 ⟨by decide, by decide⟩)
  obtain ⟨T2, h2, X2, e2, W2, st2⟩ := stB X1 hx hZ e1 Ar2 (j := (0 : Int32)) hin2 (g := (mkF m 7 #[oi u0] [(.int u0.toInt8.toInt32), (.int (0 : Int32)), (.ref b1), (.ref b1)])) rfl rfl (hb hby d3_7)
  have sz2 : h2.size = h1.size := W2.size
  have N2 := Fr.snoc X2 N0 (by omega)
  have v2 : Arv Z h2 b1 k1 .byte (1 : Int32) [(.int (nar .byte u0.toInt8.toInt32))] (.int (0 : Int32)) := Arv.set Ar2 qc2 S2 M2 H2 G2 (fits_nar_byte _) W2 0 rfl (Nat.le_of_ble_eq_true rfl)
  refine ow (oT T2 m 8 #[oi u0] [(.ref b1)]) (st2) ?_
  obtain ⟨fs, hr, hrun, hended, hW, hsame⟩ := X2.leave (v := some (.ref b1)) (fun h => by rw [Bd.returns] at h; cases h)
  refine ⟨_, _, ?_, hP _ _ hrun hended ⟨_, _, rfl, ?_, ⟨_, rfl⟩, hW, hsame.mono (by decide) (by decide)⟩⟩
  · exact retOut X2 hx Bd.returns rfl (Or.inr (Or.inr (Or.inr (Or.inr ⟨rfl, rfl, rfl⟩)))) (hb hby d3_8) hr
  ·
   show Qrm3 Z u0 h0 n0 _ T2.heap _
   rw [e2]
   exact ⟨b1, k1, rfl, N2, (((Keep.refl h0 []).ext E1).wr W2 (Or.inr (by omega))), v2, (by omega)⟩
theorem d4_0 : decode jdk_42_method_151_code 0 = .ok (.aload_n 0, 1) := by decide +kernel
theorem d4_1 : decode jdk_42_method_151_code 1 = .ok (.invokespecial 1, 3) := by decide +kernel
theorem d4_4 : decode jdk_42_method_151_code 4 = .ok (.aload_n 0, 1) := by decide +kernel
theorem d4_5 : decode jdk_42_method_151_code 5 = .ok (.aload_n 1, 1) := by decide +kernel
theorem d4_6 : decode jdk_42_method_151_code 6 = .ok (.putfield 9, 3) := by decide +kernel
theorem d4_9 : decode jdk_42_method_151_code 9 = .ok (.aload_n 0, 1) := by decide +kernel
theorem d4_10 : decode jdk_42_method_151_code 10 = .ok (.iload_n 2, 1) := by decide +kernel
theorem d4_11 : decode jdk_42_method_151_code 11 = .ok (.putfield 15, 3) := by decide +kernel
theorem d4_14 : decode jdk_42_method_151_code 14 = .ok (.return_, 1) := by decide +kernel
theorem pn_4 : plainName "java/lang/String" = true := by first | (simp [plainName, overriddenIn]; done) | decide +kernel
theorem ef_rm4 (m : MethodId) (x0 : Addr) (x1 : Addr) (x2 : Int32) : entryFrame m #[(.ref x0), (.ref x1), (.int x2)] 3 = mkF m 0 #[.val (.ref x0), .val (.ref x1), .val (.int x2)] [] := by first | (simp [entryFrame, mkF, argsToLocals, Value.category]; done) | rfl
def Qrm4 (Z : State) (a1 : Addr) (ax : Addr) (h0 : Heap) (n0 : Nat) (v : Option Value) (h : Heap) (L : List Loc) : Prop := (v = none) ∧ (Fr n0 L) ∧ (Keep h0 h [a1]) ∧ (Exa Z h a1 "java/lang/String") ∧ (Fld Z h a1 "java/lang/String" "value" "[B" (.ref ax)) ∧ (Fld Z h a1 "java/lang/String" "coder" "B" (.int (0 : Int32)))
set_option maxRecDepth 65536 in
set_option maxHeartbeats 40000000 in
theorem rm4 (l : Launch) (Z : State) (a0 : Array Value) (hw : ∀ d ∈ tables_1, d.before a0 Z = true) (ws : List Jvm.Cond) (a1 : Addr) (ax : Addr) (h0 : Heap) (n0 : Nat) (Z0 : n0 ≤ h0.size) (pr1 : Exa Z h0 a1 oS0) (pr2 : Fld Z h0 a1 oS0 "value" "[B" .null) (pr3 : Fld Z h0 a1 oS0 "coder" "B" (.int (0 : Int32))) (pr4 : n0 ≤ a1) :
    MetFree l oM27 (head1 (Jvm.Cond.code oM27 jdk_42_method_151_code 3 none :: ws) ({ frames := 1, cells := 0, slots := 0, locals := 12 } : Room)) (fun a U => a = #[(.ref a1), (.ref ax), (.int (0 : Int32))] ∧ Z.Warmed39 U.vm ∧ U.heap = h0) (fun _ _ _ _ _ => True) (fun _ U o U' => ∃ v L, o = .returned v ∧ Qrm4 Z a1 ax h0 n0 v U'.heap L ∧ FrameEnd U o U' L ({ frames := 1, cells := 0, slots := 0, locals := 12 } : Room).cells ({ frames := 1, cells := 0, slots := 0, locals := 12 } : Room).slots) := by
  refine MetFree.of_bodySF (plainFor_of_name pn_4) hisR ?_
  intro p e s m args below meth c s₁ Bd hml0 hP0 hK
  obtain ⟨rfl, hZ, hh⟩ := hP0
  have hx := Bd.exec
  have hby := Bd.bytes
  have hml : c.maxLocals = 3 := hml0
  have hown : s.vm.findClass oS0 = some m.cls := findClass_of_methodNamed Bd.named
  have hnm := (name_of_methodNamed Bd.named Bd.method).1
  have X0 : Stand p l e ({ frames := 1, cells := 0, slots := 0, locals := 12 } : Room) s m #[(.ref a1), (.ref ax), (.int (0 : Int32))] below meth c s₁ [] 0 0 := Stand.of_body Bd
  have e0 : s₁.heap = h0 := by rw [← hh, Bd.state]; rfl
  have N0 := Fr.nil n0
  refine own_fin (st' := s₁.setTop (mkF m 0 #[oR a1, oR ax, oi 0] [])) (fun _ k => castTop (ef_rm4 m a1 ax (0 : Int32)) k) (fun P hP => ?_)
  have lt_a1 : @LT.lt Nat _ a1 h0.size := pr1.lt
  refine ow (oT s₁ m 1 #[oR a1, oR ax, oi 0] [(.ref a1)]) (fun _ k => XS.aloadN X0.here hx rfl (hb hby d4_0) rfl rfl k) ?_
  obtain ⟨T1, X1, e1, st1⟩ := initO X0 hx hZ hown (own_hw hw 19) (own_hw hw 20) (own_hw hw 21) e0 (g := (mkF m 1 #[oR a1, oR ax, oi 0] [(.ref a1)])) rfl (by rw [hml]; rfl) rfl (hb hby d4_1) (by decide) (W := 0) (by show 2 * 0 + _ ≤ _; exact Nat.le_of_eq rfl) (by decide)
  refine ow (oT T1 m 4 #[oR a1, oR ax, oi 0] []) (st1) ?_
  refine ow (oT T1 m 5 #[oR a1, oR ax, oi 0] [(.ref a1)]) (fun _ k => XS.aloadN X1.here hx rfl (hb hby d4_4) rfl rfl k) ?_
  refine ow (oT T1 m 6 #[oR a1, oR ax, oi 0] [(.ref ax), (.ref a1)]) (fun _ k => XS.aloadN X1.here hx rfl (hb hby d4_5) rfl rfl k) ?_
  obtain ⟨T2, h2, X2, e2, W2, st2⟩ := putF X1 hx hZ hown (host := "") (Or.inl (own_hw hw 22)) Via.refl e1 pr2 pr1 (Or.inr ⟨(own_hw hw 23), rfl, hnm⟩) (own_hw hw 10) (ty := (.array .byte)) (by decide) rfl rfl (g := (mkF m 6 #[oR a1, oR ax, oi 0] [(.ref ax), (.ref a1)])) rfl rfl (hb hby d4_6)
  have sz2 : h2.size = h0.size := W2.size
  have N2 := Fr.snoc X2 N0 (by omega)
  have f2 : Fld Z h2 a1 oS0 "value" "[B" (.ref ax) := pr2.same W2
  refine ow (oT T2 m 9 #[oR a1, oR ax, oi 0] []) (st2) ?_
  refine ow (oT T2 m 10 #[oR a1, oR ax, oi 0] [(.ref a1)]) (fun _ k => XS.aloadN X2.here hx rfl (hb hby d4_9) rfl rfl k) ?_
  refine ow (oT T2 m 11 #[oR a1, oR ax, oi 0] [(.int (0 : Int32)), (.ref a1)]) (fun _ k => XS.iloadN X2.here hx rfl (hb hby d4_10) rfl k) ?_
  have c3 : Fld Z h2 a1 oS0 "coder" "B" (.int (0 : Int32)) := (pr3.other W2 (Or.inr (slot_ne (Or.inr (own_hw hw 25)) (Or.inr (own_hw hw 23)) (by decide) (t := .byte) (t' := (.array .byte)) (by decide) (by decide))))
  have c4 : Exa Z h2 a1 oS0 := (pr1.wr W2)
  obtain ⟨T5, h5, X5, e5, W5, st5⟩ := putFN X2 hx hZ hown (own_hw hw 24) Via.refl e2 c3 c4 (Or.inr ⟨(own_hw hw 25), rfl, hnm⟩) (own_hw hw 10) (ty := .byte) (v' := (.int (0 : Int32))) (by decide) rfl rfl (g := (mkF m 11 #[oR a1, oR ax, oi 0] [(.int (0 : Int32)), (.ref a1)])) rfl rfl (hb hby d4_11)
  have sz5 : h5.size = h2.size := W5.size
  have N5 := Fr.snoc X5 N2 (by omega)
  have f5 : Fld Z h5 a1 oS0 "coder" "B" (.int (0 : Int32)) := c3.same W5
  refine ow (oT T5 m 14 #[oR a1, oR ax, oi 0] []) (st5) ?_
  obtain ⟨fs, hr, hrun, hended, hW, hsame⟩ := X5.leave (v := none) (fun _ => rfl)
  refine ⟨_, _, ?_, hP _ _ hrun hended ⟨_, _, rfl, ?_, ⟨_, rfl⟩, hW, hsame.mono (by decide) (by decide)⟩⟩
  · exact X5.returnOut hx Bd.returns (hb hby d4_14) hr
  ·
   show Qrm4 Z a1 ax h0 n0 _ T5.heap _
   have c7 : Exa Z h5 a1 oS0 := (c4.wr W5)
   have c8 : Fld Z h5 a1 oS0 "value" "[B" (.ref ax) := (f2.other W5 (Or.inr (slot_ne (Or.inr (own_hw hw 23)) (Or.inr (own_hw hw 25)) (by decide) (t := (.array .byte)) (t' := .byte) (by decide) (by decide))))
   rw [e5]
   exact ⟨rfl, N5, (((Keep.refl h0 [a1]).wr W2 (Or.inl (List.mem_of_getElem? (i := 0) rfl))).wr W5 (Or.inl (List.mem_of_getElem? (i := 0) rfl))), c7, c8, f5⟩
theorem pd_5 : parseMethodDescriptor "(C)Z" = some ⟨[.char], some .boolean⟩ := by decide +kernel
theorem pd_6 : parseMethodDescriptor "(C)[B" = some ⟨[.char], some (.array .byte)⟩ := by decide +kernel
theorem pd_7 : parseMethodDescriptor "([BB)V" = some ⟨[(.array .byte), .byte], none⟩ := by decide +kernel
theorem d1_0 : decode jdk_42_method_139_code 0 = .ok (.getstatic 38, 3) := by decide +kernel
theorem d1_3 : decode jdk_42_method_139_code 3 = .ok (.ifCond .eq 23, 3) := by decide +kernel
theorem d1_6 : decode jdk_42_method_139_code 6 = .ok (.iload_n 0, 1) := by decide +kernel
theorem d1_7 : decode jdk_42_method_139_code 7 = .ok (.invokestatic 1015, 3) := by decide +kernel
theorem d1_10 : decode jdk_42_method_139_code 10 = .ok (.ifCond .eq 16, 3) := by decide +kernel
theorem d1_13 : decode jdk_42_method_139_code 13 = .ok (.new 10, 3) := by decide +kernel
theorem d1_16 : decode jdk_42_method_139_code 16 = .ok (.dup, 1) := by decide +kernel
theorem d1_17 : decode jdk_42_method_139_code 17 = .ok (.iload_n 0, 1) := by decide +kernel
theorem d1_18 : decode jdk_42_method_139_code 18 = .ok (.invokestatic 1018, 3) := by decide +kernel
theorem d1_21 : decode jdk_42_method_139_code 21 = .ok (.iconst 0, 1) := by decide +kernel
theorem d1_22 : decode jdk_42_method_139_code 22 = .ok (.invokespecial 209, 3) := by decide +kernel
theorem d1_25 : decode jdk_42_method_139_code 25 = .ok (.areturn, 1) := by decide +kernel
theorem pn_1 : plainName "java/lang/String" = true := by first | (simp [plainName, overriddenIn]; done) | decide +kernel
theorem ef_rm1 (m : MethodId) (x0 : Int32) : entryFrame m #[(.int x0)] 1 = mkF m 0 #[.val (.int x0)] [] := by first | (simp [entryFrame, mkF, argsToLocals, Value.category]; done) | rfl
def Qrm1 (Z : State) (zc : Int32) (u0 : Int32) (h0 : Heap) (n0 : Nat) (v : Option Value) (h : Heap) (L : List Loc) : Prop := ∃ (a1 : Addr) (r : Addr) (kr : ClassId), (v = some (.ref a1)) ∧ (Fr n0 L) ∧ (Keep h0 h []) ∧ (Exa Z h a1 "java/lang/String") ∧ (Fld Z h a1 "java/lang/String" "value" "[B" (.ref r)) ∧ (Fld Z h a1 "java/lang/String" "coder" "B" (.int (0 : Int32))) ∧ (Arv Z h r kr .byte (1 : Int32) [(.int (own_by u0))] (.int (0 : Int32))) ∧ (h0.size ≤ a1) ∧ (h0.size ≤ r)
set_option maxRecDepth 65536 in
set_option maxHeartbeats 40000000 in
theorem rm1 (l : Launch) (Z : State) (a0 : Array Value) (hw : ∀ d ∈ tables_1, d.before a0 Z = true) (ws : List Jvm.Cond) (zc : Int32) (u0 : Int32) (h0 : Heap) (n0 : Nat) (Z0 : n0 ≤ h0.size) (pr1 : Sta Z h0 oS0 oS4 "Z" (.int zc)) (hzc : ¬ zc = (0 : Int32)) (hl_u0 : own_lat u0) :
    MetFree l oM23 (head1 (Jvm.Cond.code oM23 jdk_42_method_139_code 1 (some (.object oS0)) :: ws) ({ frames := 2, cells := 2, slots := 5, locals := 27 } : Room)) (fun a U => a = #[(.int u0)] ∧ Z.Warmed39 U.vm ∧ U.heap = h0) (fun _ _ _ _ _ => True) (fun _ U o U' => ∃ v L, o = .returned v ∧ Qrm1 Z zc u0 h0 n0 v U'.heap L ∧ FrameEnd U o U' L ({ frames := 2, cells := 2, slots := 5, locals := 27 } : Room).cells ({ frames := 2, cells := 2, slots := 5, locals := 27 } : Room).slots) := by
  refine MetFree.of_bodySF (plainFor_of_name pn_1) hisR ?_
  intro p e s m args below meth c s₁ Bd hml0 hP0 hK
  obtain ⟨rfl, hZ, hh⟩ := hP0
  have hx := Bd.exec
  have hby := Bd.bytes
  have hml : c.maxLocals = 1 := hml0
  have hown : s.vm.findClass oS0 = some m.cls := findClass_of_methodNamed Bd.named
  have hnm := (name_of_methodNamed Bd.named Bd.method).1
  have X0 : Stand p l e ({ frames := 2, cells := 2, slots := 5, locals := 27 } : Room) s m #[(.int u0)] below meth c s₁ [] 0 0 := Stand.of_body Bd
  have e0 : s₁.heap = h0 := by rw [← hh, Bd.state]; rfl
  have N0 := Fr.nil n0
  refine own_fin (st' := s₁.setTop (mkF m 0 #[oi u0] [])) (fun _ k => castTop (ef_rm1 m u0) k) (fun P hP => ?_)
  obtain ⟨T1, X1, e1, st1⟩ := getS2 X0 hx hZ hown (host := "") (Or.inl (own_hw hw 4)) Via.refl e0 pr1 (g := (mkF m 0 #[oi u0] [])) rfl (hb hby d1_0)
  refine ow (oT T1 m 3 #[oi u0] [(.int zc)]) (st1) ?_
  have hc2 : ¬ (zc = (0 : Int32)) := hzc
  refine ow (oT T1 m 6 #[oi u0] []) (fun _ k => XS.ifNo X1.here hx rfl (hb hby d1_3) rfl ((if0 _ _).trans (feq hc2).1) k) ?_
  refine ow (oT T1 m 7 #[oi u0] [(.int u0)]) (fun _ k => XS.iloadN X1.here hx rfl (hb hby d1_6) rfl k) ?_
  obtain ⟨_, _, ⟨T3, LC3, kC3, nC3⟩, -, X3, ⟨Lc3, hQ3, lq3, yq3, zq3⟩, st3⟩ := Jvm.LawKit.callS X1 hx (y := oM25) hown (mvT hZ (own_hw hw 5)) (mvT hZ (own_hw hw 6)) (mvT hZ (own_hw hw 7)) (mvT hZ (own_hw hw 8)) (by decide) (backOf (W := 0) (rm2 l Z a0 hw [] u0 h0 n0 (by omega) hl_u0) hZ (own_hw hw 8) (own_hw hw 7) (by decide) (by decide)) (g := (mkF m 7 #[oi u0] [(.int u0)])) rfl hml.symm (argsL := [(.int u0)]) (rest := []) (lenOf pd_5 rfl) rfl (Nat.le_of_eq rfl) (hb hby d1_7) (fun _ _ => ⟨rfl, e1, (by decide : 0 + 0 ≤ _), (by decide : 0 + 0 ≤ _)⟩)
  dsimp only [Pt.U, Pt.locs, Pt.cells, Pt.slots] at X3 lq3 yq3 zq3 st3 hQ3
  subst lq3 yq3 zq3
  obtain ⟨rfl, Nq3, eq3⟩ := hQ3
  have N3 := Fr.app N0 Nq3
  refine ow (oT T3 m 10 #[oi u0] [(.int (1 : Int32))]) (fun t k => st3 t k) ?_
  have hc4 : ¬ ((1 : Int32) = (0 : Int32)) := by decide
  refine ow (oT T3 m 13 #[oi u0] []) (fun _ k => XS.ifNo X3.here hx rfl (hb hby d1_10) rfl ((if0 _ _).trans (feq hc4).1) k) ?_
  obtain ⟨T5, h5, X5, e5, E5, A5, D5, -, st5⟩ := newO X3 hx hZ hown (own_hw hw 9) (own_hw hw 10) (own_hw hw 2) eq3 (g := (mkF m 13 #[oi u0] [])) rfl (hb hby d1_13) (by decide) (by decide)
  obtain ⟨b5, g5⟩ : ∃ z, z = h0.size := ⟨_, rfl⟩
  rw [← g5] at A5 D5 st5
  have sz5 : h0.size ≤ h5.size := E5.1
  have lt5 : @LT.lt Nat _ b5 h5.size := A5.lt
  have f6 : Fld Z h5 b5 oS0 "value" "[B" .null := D5 (Or.inr (own_hw hw 23)) (ty := (.array .byte)) (by decide)
  have f7 : Fld Z h5 b5 oS0 "coder" "B" (.int (0 : Int32)) := D5 (Or.inr (own_hw hw 25)) (ty := .byte) (by decide)
  refine ow (oT T5 m 16 #[oi u0] [(.ref b5)]) (st5) ?_
  refine ow (oT T5 m 17 #[oi u0] [(.ref b5), (.ref b5)]) (fun _ k => XS.dup X5.here hx rfl (hb hby d1_16) rfl rfl k) ?_
  refine ow (oT T5 m 18 #[oi u0] [(.int u0), (.ref b5), (.ref b5)]) (fun _ k => XS.iloadN X5.here hx rfl (hb hby d1_17) rfl k) ?_
  obtain ⟨_, _, ⟨T8, LC8, kC8, nC8⟩, -, X8, ⟨Lc8, hQ8, lq8, yq8, zq8⟩, st8⟩ := Jvm.LawKit.callS X5 hx (y := oM26) hown (mvT hZ (own_hw hw 11)) (mvT hZ (own_hw hw 12)) (mvT hZ (own_hw hw 7)) (mvT hZ (own_hw hw 13)) (by decide) (backOf (W := 2) (rm3 l Z a0 hw [] u0 h5 n0 (by omega) hl_u0) hZ (own_hw hw 13) (own_hw hw 7) (by decide) (by decide)) (g := (mkF m 18 #[oi u0] [(.int u0), (.ref b5), (.ref b5)])) rfl hml.symm (argsL := [(.int u0)]) (rest := [(.ref b5), (.ref b5)]) (lenOf pd_6 rfl) rfl (Nat.le_of_eq rfl) (hb hby d1_18) (fun _ _ => ⟨rfl, e5, (by decide : 1 + 1 ≤ _), (by decide : 4 + 1 ≤ _)⟩)
  dsimp only [Pt.U, Pt.locs, Pt.cells, Pt.slots] at X8 lq8 yq8 zq8 st8 hQ8
  subst lq8 yq8 zq8
  obtain ⟨h8, e8⟩ : ∃ z, T8.heap = z := ⟨_, rfl⟩
  rw [e8] at hQ8
  obtain ⟨r_8, kr_8, rfl, Nq8, K8, g8_0, g8_1⟩ := hQ8
  have sz8 : h5.size ≤ h8.size := K8.1
  have N8 := Fr.app N3 Nq8
  have lt8_1 : @LT.lt Nat _ r_8 h8.size := g8_0.lt
  refine ow (oT T8 m 21 #[oi u0] [(.ref r_8), (.ref b5), (.ref b5)]) (fun t k => st8 t k) ?_
  refine ow (oT T8 m 22 #[oi u0] [(.int (0 : Int32)), (.ref r_8), (.ref b5), (.ref b5)]) (fun _ k => XS.iconst X8.here hx rfl (hb hby d1_21) k) ?_
  have c10 : Exa Z h8 b5 oS0 := (A5.keep K8)
  have c11 : Fld Z h8 b5 oS0 "value" "[B" .null := (f6.keep K8 nin0)
  have c12 : Fld Z h8 b5 oS0 "coder" "B" (.int (0 : Int32)) := (f7.keep K8 nin0)
  obtain ⟨_, _, ⟨T9, LC9, kC9, nC9⟩, -, X9, ⟨Lc9, hQ9, lq9, yq9, zq9⟩, st9⟩ := X8.specialBack hx (y := oM27) rfl hown (mvT hZ (own_hw hw 15)) (mvT hZ (own_hw hw 16)) (mvT hZ (own_hw hw 18)) (by decide) (backOf (W := 1) (rm4 l Z a0 hw [] b5 r_8 h8 n0 (by omega) c10 c11 c12 (by omega)) hZ (own_hw hw 18) (own_hw hw 2) (by decide) (by decide)) (g := (mkF m 22 #[oi u0] [(.int (0 : Int32)), (.ref r_8), (.ref b5), (.ref b5)])) rfl hml.symm (Steps.refl _) (a := b5) (argsL := [(.ref r_8), (.int (0 : Int32))]) (rest := [(.ref b5)]) (lenOf pd_7 rfl) rfl (Nat.le_of_eq rfl) (hb hby d1_22) (fun _ _ => ⟨rfl, e8, (by decide : 2 + 0 ≤ _), (by decide : 5 + 0 ≤ _)⟩)
  dsimp only [Pt.U, Pt.locs, Pt.cells, Pt.slots] at X9 lq9 yq9 zq9 st9 hQ9
  subst lq9 yq9 zq9
  obtain ⟨h9, e9⟩ : ∃ z, T9.heap = z := ⟨_, rfl⟩
  rw [e9] at hQ9
  obtain ⟨rfl, Nq9, K9, g9_0, g9_1, g9_2⟩ := hQ9
  have sz9 : h8.size ≤ h9.size := K9.1
  have N9 := Fr.app N8 Nq9
  have lt9_1 : @LT.lt Nat _ b5 h9.size := g9_0.lt
  refine ow (oT T9 m 25 #[oi u0] [(.ref b5)]) (fun _ k => st9.trans k) ?_
  obtain ⟨fs, hr, hrun, hended, hW, hsame⟩ := X9.leave (v := some (.ref b5)) (fun h => by rw [Bd.returns] at h; cases h)
  refine ⟨_, _, ?_, hP _ _ hrun hended ⟨_, _, rfl, ?_, ⟨_, rfl⟩, hW, hsame.mono (by decide) (by decide)⟩⟩
  · exact retOut X9 hx Bd.returns rfl (Or.inr (Or.inr (Or.inr (Or.inr ⟨rfl, rfl, rfl⟩)))) (hb hby d1_25) hr
  ·
   show Qrm1 Z zc u0 h0 n0 _ T9.heap _
   have c14 : Arv Z h9 r_8 kr_8 .byte (1 : Int32) [(.int (own_by u0))] (.int (0 : Int32)) := (g8_0.keep K9 (ninS (own_ne (by omega)) nin0))
   rw [e9]
   exact ⟨b5, r_8, kr_8, rfl, N9, ((((Keep.refl h0 []).ext E5).trans K8 all0).trans K9 (allS (P := fun x => x ∈ [] ∨ h0.size ≤ x) (Or.inr (by omega)) all0)), g9_0, g9_1, g9_2, c14, (by omega), (by omega)⟩
theorem d13_0 : decode jdk_22_method_1_code 0 = .ok (.aload_n 0, 1) := by decide +kernel
theorem d13_1 : decode jdk_22_method_1_code 1 = .ok (.invokespecial 1, 3) := by decide +kernel
theorem d13_4 : decode jdk_22_method_1_code 4 = .ok (.return_, 1) := by decide +kernel
theorem pn_13 : plainName "java/util/AbstractCollection" = true := by first | (simp [plainName, overriddenIn]; done) | decide +kernel
theorem ef_rm13 (m : MethodId) (x0 : Addr) : entryFrame m #[(.ref x0)] 1 = mkF m 0 #[.val (.ref x0)] [] := by first | (simp [entryFrame, mkF, argsToLocals, Value.category]; done) | rfl
def Qrm13 (Z : State) (a1 : Addr) (h0 : Heap) (n0 : Nat) (v : Option Value) (h : Heap) (L : List Loc) : Prop := (v = none) ∧ (Fr n0 L) ∧ (h = h0)
set_option maxRecDepth 65536 in
set_option maxHeartbeats 40000000 in
theorem rm13 (l : Launch) (Z : State) (a0 : Array Value) (hw : ∀ d ∈ tables_1, d.before a0 Z = true) (ws : List Jvm.Cond) (a1 : Addr) (h0 : Heap) (n0 : Nat) (Z0 : n0 ≤ h0.size)  :
    MetFree l oM24 (head1 (Jvm.Cond.code oM24 jdk_22_method_1_code 1 none :: ws) ({ frames := 1, cells := 0, slots := 0, locals := 12 } : Room)) (fun a U => a = #[(.ref a1)] ∧ Z.Warmed39 U.vm ∧ U.heap = h0) (fun _ _ _ _ _ => True) (fun _ U o U' => ∃ v L, o = .returned v ∧ Qrm13 Z a1 h0 n0 v U'.heap L ∧ FrameEnd U o U' L ({ frames := 1, cells := 0, slots := 0, locals := 12 } : Room).cells ({ frames := 1, cells := 0, slots := 0, locals := 12 } : Room).slots) := by
  refine MetFree.of_bodySF (plainFor_of_name pn_13) hisR ?_
  intro p e s m args below meth c s₁ Bd hml0 hP0 hK
  obtain ⟨rfl, hZ, hh⟩ := hP0
  have hx := Bd.exec
  have hby := Bd.bytes
  have hml : c.maxLocals = 1 := hml0
  have hown : s.vm.findClass "java/util/AbstractCollection" = some m.cls := findClass_of_methodNamed Bd.named
  have hnm := (name_of_methodNamed Bd.named Bd.method).1
  have X0 : Stand p l e ({ frames := 1, cells := 0, slots := 0, locals := 12 } : Room) s m #[(.ref a1)] below meth c s₁ [] 0 0 := Stand.of_body Bd
  have e0 : s₁.heap = h0 := by rw [← hh, Bd.state]; rfl
  have N0 := Fr.nil n0
  refine own_fin (st' := s₁.setTop (mkF m 0 #[oR a1] [])) (fun _ k => castTop (ef_rm13 m a1) k) (fun P hP => ?_)
  refine ow (oT s₁ m 1 #[oR a1] [(.ref a1)]) (fun _ k => XS.aloadN X0.here hx rfl (hb hby d13_0) rfl rfl k) ?_
  obtain ⟨T1, X1, e1, st1⟩ := initO X0 hx hZ hown (own_hw hw 62) (own_hw hw 20) (own_hw hw 21) e0 (g := (mkF m 1 #[oR a1] [(.ref a1)])) rfl (by rw [hml]; rfl) rfl (hb hby d13_1) (by decide) (W := 0) (by show 2 * 0 + _ ≤ _; exact Nat.le_of_eq rfl) (by decide)
  refine ow (oT T1 m 4 #[oR a1] []) (st1) ?_
  obtain ⟨fs, hr, hrun, hended, hW, hsame⟩ := X1.leave (v := none) (fun _ => rfl)
  refine ⟨_, _, ?_, hP _ _ hrun hended ⟨_, _, rfl, ?_, ⟨_, rfl⟩, hW, hsame.mono (by decide) (by decide)⟩⟩
  · exact X1.returnOut hx Bd.returns (hb hby d13_4) hr
  ·
   show Qrm13 Z a1 h0 n0 _ T1.heap _
   rw [e1]
   exact ⟨rfl, N0, rfl⟩
theorem pd_8 : parseMethodDescriptor "()V" = some ⟨[], none⟩ := by decide +kernel
theorem d18_0 : decode jdk_47_method_1_code 0 = .ok (.aload_n 0, 1) := by decide +kernel
theorem d18_1 : decode jdk_47_method_1_code 1 = .ok (.invokespecial 1, 3) := by decide +kernel
theorem d18_4 : decode jdk_47_method_1_code 4 = .ok (.return_, 1) := by decide +kernel
theorem pn_18 : plainName "java/util/ImmutableCollections$AbstractImmutableCollection" = true := by first | (simp [plainName, overriddenIn]; done) | decide +kernel
theorem ef_rm18 (m : MethodId) (x0 : Addr) : entryFrame m #[(.ref x0)] 1 = mkF m 0 #[.val (.ref x0)] [] := by first | (simp [entryFrame, mkF, argsToLocals, Value.category]; done) | rfl
def Qrm18 (Z : State) (a1 : Addr) (h0 : Heap) (n0 : Nat) (v : Option Value) (h : Heap) (L : List Loc) : Prop := (v = none) ∧ (Fr n0 L) ∧ (h = h0)
set_option maxRecDepth 65536 in
set_option maxHeartbeats 40000000 in
theorem rm18 (l : Launch) (Z : State) (a0 : Array Value) (hw : ∀ d ∈ tables_1, d.before a0 Z = true) (ws : List Jvm.Cond) (a1 : Addr) (h0 : Heap) (n0 : Nat) (Z0 : n0 ≤ h0.size)  :
    MetFree l oM28 (head1 (Jvm.Cond.code oM28 jdk_47_method_1_code 1 none :: ws) ({ frames := 2, cells := 0, slots := 0, locals := 24 } : Room)) (fun a U => a = #[(.ref a1)] ∧ Z.Warmed39 U.vm ∧ U.heap = h0) (fun _ _ _ _ _ => True) (fun _ U o U' => ∃ v L, o = .returned v ∧ Qrm18 Z a1 h0 n0 v U'.heap L ∧ FrameEnd U o U' L ({ frames := 2, cells := 0, slots := 0, locals := 24 } : Room).cells ({ frames := 2, cells := 0, slots := 0, locals := 24 } : Room).slots) := by
  refine MetFree.of_bodySF (plainFor_of_name pn_18) hisR ?_
  intro p e s m args below meth c s₁ Bd hml0 hP0 hK
  obtain ⟨rfl, hZ, hh⟩ := hP0
  have hx := Bd.exec
  have hby := Bd.bytes
  have hml : c.maxLocals = 1 := hml0
  have hown : s.vm.findClass "java/util/ImmutableCollections$AbstractImmutableCollection" = some m.cls := findClass_of_methodNamed Bd.named
  have hnm := (name_of_methodNamed Bd.named Bd.method).1
  have X0 : Stand p l e ({ frames := 2, cells := 0, slots := 0, locals := 24 } : Room) s m #[(.ref a1)] below meth c s₁ [] 0 0 := Stand.of_body Bd
  have e0 : s₁.heap = h0 := by rw [← hh, Bd.state]; rfl
  have N0 := Fr.nil n0
  refine own_fin (st' := s₁.setTop (mkF m 0 #[oR a1] [])) (fun _ k => castTop (ef_rm18 m a1) k) (fun P hP => ?_)
  refine ow (oT s₁ m 1 #[oR a1] [(.ref a1)]) (fun _ k => XS.aloadN X0.here hx rfl (hb hby d18_0) rfl rfl k) ?_
  obtain ⟨_, _, ⟨T1, LC1, kC1, nC1⟩, -, X1, ⟨Lc1, hQ1, lq1, yq1, zq1⟩, st1⟩ := X0.specialBack hx (y := oM24) rfl hown (mvT hZ (own_hw hw 97)) (mvT hZ (own_hw hw 57)) (mvT hZ (own_hw hw 61)) (by decide) (backOf (W := 0) (rm13 l Z a0 hw [] a1 h0 n0 (by omega) ) hZ (own_hw hw 61) (own_hw hw 60) (by decide) (by decide)) (g := (mkF m 1 #[oR a1] [(.ref a1)])) rfl hml.symm (Steps.refl _) (a := a1) (argsL := []) (rest := []) (lenOf pd_8 rfl) rfl (Nat.le_of_eq rfl) (hb hby d18_1) (fun _ _ => ⟨rfl, e0, (by decide : 0 + 0 ≤ _), (by decide : 0 + 0 ≤ _)⟩)
  dsimp only [Pt.U, Pt.locs, Pt.cells, Pt.slots] at X1 lq1 yq1 zq1 st1 hQ1
  subst lq1 yq1 zq1
  obtain ⟨rfl, Nq1, eq1⟩ := hQ1
  have N1 := Fr.app N0 Nq1
  refine ow (oT T1 m 4 #[oR a1] []) (fun _ k => st1.trans k) ?_
  obtain ⟨fs, hr, hrun, hended, hW, hsame⟩ := X1.leave (v := none) (fun _ => rfl)
  refine ⟨_, _, ?_, hP _ _ hrun hended ⟨_, _, rfl, ?_, ⟨_, rfl⟩, hW, hsame.mono (by decide) (by decide)⟩⟩
  · exact X1.returnOut hx Bd.returns (hb hby d18_4) hr
  ·
   show Qrm18 Z a1 h0 n0 _ T1.heap _
   rw [eq1]
   exact ⟨rfl, N1, rfl⟩
theorem d17_0 : decode jdk_46_method_1_code 0 = .ok (.aload_n 0, 1) := by decide +kernel
theorem d17_1 : decode jdk_46_method_1_code 1 = .ok (.invokespecial 1, 3) := by decide +kernel
theorem d17_4 : decode jdk_46_method_1_code 4 = .ok (.return_, 1) := by decide +kernel
theorem pn_17 : plainName "java/util/ImmutableCollections$AbstractImmutableList" = true := by first | (simp [plainName, overriddenIn]; done) | decide +kernel
theorem ef_rm17 (m : MethodId) (x0 : Addr) : entryFrame m #[(.ref x0)] 1 = mkF m 0 #[.val (.ref x0)] [] := by first | (simp [entryFrame, mkF, argsToLocals, Value.category]; done) | rfl
def Qrm17 (Z : State) (a1 : Addr) (h0 : Heap) (n0 : Nat) (v : Option Value) (h : Heap) (L : List Loc) : Prop := (v = none) ∧ (Fr n0 L) ∧ (h = h0)
set_option maxRecDepth 65536 in
set_option maxHeartbeats 40000000 in
theorem rm17 (l : Launch) (Z : State) (a0 : Array Value) (hw : ∀ d ∈ tables_1, d.before a0 Z = true) (ws : List Jvm.Cond) (a1 : Addr) (h0 : Heap) (n0 : Nat) (Z0 : n0 ≤ h0.size)  :
    MetFree l oM29 (head1 (Jvm.Cond.code oM29 jdk_46_method_1_code 1 none :: ws) ({ frames := 3, cells := 0, slots := 0, locals := 36 } : Room)) (fun a U => a = #[(.ref a1)] ∧ Z.Warmed39 U.vm ∧ U.heap = h0) (fun _ _ _ _ _ => True) (fun _ U o U' => ∃ v L, o = .returned v ∧ Qrm17 Z a1 h0 n0 v U'.heap L ∧ FrameEnd U o U' L ({ frames := 3, cells := 0, slots := 0, locals := 36 } : Room).cells ({ frames := 3, cells := 0, slots := 0, locals := 36 } : Room).slots) := by
  refine MetFree.of_bodySF (plainFor_of_name pn_17) hisR ?_
  intro p e s m args below meth c s₁ Bd hml0 hP0 hK
  obtain ⟨rfl, hZ, hh⟩ := hP0
  have hx := Bd.exec
  have hby := Bd.bytes
  have hml : c.maxLocals = 1 := hml0
  have hown : s.vm.findClass "java/util/ImmutableCollections$AbstractImmutableList" = some m.cls := findClass_of_methodNamed Bd.named
  have hnm := (name_of_methodNamed Bd.named Bd.method).1
  have X0 : Stand p l e ({ frames := 3, cells := 0, slots := 0, locals := 36 } : Room) s m #[(.ref a1)] below meth c s₁ [] 0 0 := Stand.of_body Bd
  have e0 : s₁.heap = h0 := by rw [← hh, Bd.state]; rfl
  have N0 := Fr.nil n0
  refine own_fin (st' := s₁.setTop (mkF m 0 #[oR a1] [])) (fun _ k => castTop (ef_rm17 m a1) k) (fun P hP => ?_)
  refine ow (oT s₁ m 1 #[oR a1] [(.ref a1)]) (fun _ k => XS.aloadN X0.here hx rfl (hb hby d17_0) rfl rfl k) ?_
  obtain ⟨_, _, ⟨T1, LC1, kC1, nC1⟩, -, X1, ⟨Lc1, hQ1, lq1, yq1, zq1⟩, st1⟩ := X0.specialBack hx (y := oM28) rfl hown (mvT hZ (own_hw hw 91)) (mvT hZ (own_hw hw 92)) (mvT hZ (own_hw hw 96)) (by decide) (backOf (W := 0) (rm18 l Z a0 hw [] a1 h0 n0 (by omega) ) hZ (own_hw hw 96) (own_hw hw 95) (by decide) (by decide)) (g := (mkF m 1 #[oR a1] [(.ref a1)])) rfl hml.symm (Steps.refl _) (a := a1) (argsL := []) (rest := []) (lenOf pd_8 rfl) rfl (Nat.le_of_eq rfl) (hb hby d17_1) (fun _ _ => ⟨rfl, e0, (by decide : 0 + 0 ≤ _), (by decide : 0 + 0 ≤ _)⟩)
  dsimp only [Pt.U, Pt.locs, Pt.cells, Pt.slots] at X1 lq1 yq1 zq1 st1 hQ1
  subst lq1 yq1 zq1
  obtain ⟨rfl, Nq1, eq1⟩ := hQ1
  have N1 := Fr.app N0 Nq1
  refine ow (oT T1 m 4 #[oR a1] []) (fun _ k => st1.trans k) ?_
  obtain ⟨fs, hr, hrun, hended, hW, hsame⟩ := X1.leave (v := none) (fun _ => rfl)
  refine ⟨_, _, ?_, hP _ _ hrun hended ⟨_, _, rfl, ?_, ⟨_, rfl⟩, hW, hsame.mono (by decide) (by decide)⟩⟩
  · exact X1.returnOut hx Bd.returns (hb hby d17_4) hr
  ·
   show Qrm17 Z a1 h0 n0 _ T1.heap _
   rw [eq1]
   exact ⟨rfl, N1, rfl⟩
theorem d12_0 : decode jdk_39_method_1_code 0 = .ok (.aload_n 0, 1) := by decide +kernel
theorem d12_1 : decode jdk_39_method_1_code 1 = .ok (.invokespecial 1, 3) := by decide +kernel
theorem d12_4 : decode jdk_39_method_1_code 4 = .ok (.aload_n 0, 1) := by decide +kernel
theorem d12_5 : decode jdk_39_method_1_code 5 = .ok (.iconst 0, 1) := by decide +kernel
theorem d12_6 : decode jdk_39_method_1_code 6 = .ok (.putfield 7, 3) := by decide +kernel
theorem d12_9 : decode jdk_39_method_1_code 9 = .ok (.return_, 1) := by decide +kernel
theorem pn_12 : plainName "java/util/AbstractList" = true := by first | (simp [plainName, overriddenIn]; done) | decide +kernel
theorem ef_rm12 (m : MethodId) (x0 : Addr) : entryFrame m #[(.ref x0)] 1 = mkF m 0 #[.val (.ref x0)] [] := by first | (simp [entryFrame, mkF, argsToLocals, Value.category]; done) | rfl
def Qrm12 (Z : State) (a1 : Addr) (mc : Int32) (h0 : Heap) (n0 : Nat) (v : Option Value) (h : Heap) (L : List Loc) : Prop := (v = none) ∧ (Fr n0 L) ∧ (Keep h0 h [a1]) ∧ (Exa Z h a1 "java/util/ArrayList") ∧ (Fld Z h a1 "java/util/AbstractList" "modCount" "I" (.int (0 : Int32))) ∧ (Fld Z h a1 "java/util/ArrayList" "elementData" "[Ljava/lang/Object;" .null) ∧ (Fld Z h a1 "java/util/ArrayList" "size" "I" (.int (0 : Int32)))
set_option maxRecDepth 65536 in
set_option maxHeartbeats 40000000 in
theorem rm12 (l : Launch) (Z : State) (a0 : Array Value) (hw : ∀ d ∈ tables_1, d.before a0 Z = true) (ws : List Jvm.Cond) (a1 : Addr) (mc : Int32) (h0 : Heap) (n0 : Nat) (Z0 : n0 ≤ h0.size) (pr1 : Exa Z h0 a1 oS1) (pr2 : Fld Z h0 a1 oS8 "modCount" "I" (.int mc)) (pr3 : Fld Z h0 a1 oS1 "elementData" oS3 .null) (pr4 : Fld Z h0 a1 oS1 "size" "I" (.int (0 : Int32))) (pr5 : n0 ≤ a1) :
    MetFree l oM30 (head1 (Jvm.Cond.code oM30 jdk_39_method_1_code 1 none :: ws) ({ frames := 2, cells := 0, slots := 0, locals := 24 } : Room)) (fun a U => a = #[(.ref a1)] ∧ Z.Warmed39 U.vm ∧ U.heap = h0) (fun _ _ _ _ _ => True) (fun _ U o U' => ∃ v L, o = .returned v ∧ Qrm12 Z a1 mc h0 n0 v U'.heap L ∧ FrameEnd U o U' L ({ frames := 2, cells := 0, slots := 0, locals := 24 } : Room).cells ({ frames := 2, cells := 0, slots := 0, locals := 24 } : Room).slots) := by
  refine MetFree.of_bodySF (plainFor_of_name pn_12) hisR ?_
  intro p e s m args below meth c s₁ Bd hml0 hP0 hK
  obtain ⟨rfl, hZ, hh⟩ := hP0
  have hx := Bd.exec
  have hby := Bd.bytes
  have hml : c.maxLocals = 1 := hml0
  have hown : s.vm.findClass oS8 = some m.cls := findClass_of_methodNamed Bd.named
  have hnm := (name_of_methodNamed Bd.named Bd.method).1
  have X0 : Stand p l e ({ frames := 2, cells := 0, slots := 0, locals := 24 } : Room) s m #[(.ref a1)] below meth c s₁ [] 0 0 := Stand.of_body Bd
  have e0 : s₁.heap = h0 := by rw [← hh, Bd.state]; rfl
  have N0 := Fr.nil n0
  refine own_fin (st' := s₁.setTop (mkF m 0 #[oR a1] [])) (fun _ k => castTop (ef_rm12 m a1) k) (fun P hP => ?_)
  have lt_a1 : @LT.lt Nat _ a1 h0.size := pr1.lt
  refine ow (oT s₁ m 1 #[oR a1] [(.ref a1)]) (fun _ k => XS.aloadN X0.here hx rfl (hb hby d12_0) rfl rfl k) ?_
  obtain ⟨_, _, ⟨T1, LC1, kC1, nC1⟩, -, X1, ⟨Lc1, hQ1, lq1, yq1, zq1⟩, st1⟩ := X0.specialBack hx (y := oM24) rfl hown (mvT hZ (own_hw hw 56)) (mvT hZ (own_hw hw 57)) (mvT hZ (own_hw hw 61)) (by decide) (backOf (W := 0) (rm13 l Z a0 hw [] a1 h0 n0 (by omega) ) hZ (own_hw hw 61) (own_hw hw 60) (by decide) (by decide)) (g := (mkF m 1 #[oR a1] [(.ref a1)])) rfl hml.symm (Steps.refl _) (a := a1) (argsL := []) (rest := []) (lenOf pd_8 rfl) rfl (Nat.le_of_eq rfl) (hb hby d12_1) (fun _ _ => ⟨rfl, e0, (by decide : 0 + 0 ≤ _), (by decide : 0 + 0 ≤ _)⟩)
  dsimp only [Pt.U, Pt.locs, Pt.cells, Pt.slots] at X1 lq1 yq1 zq1 st1 hQ1
  subst lq1 yq1 zq1
  obtain ⟨rfl, Nq1, eq1⟩ := hQ1
  have N1 := Fr.app N0 Nq1
  refine ow (oT T1 m 4 #[oR a1] []) (fun _ k => st1.trans k) ?_
  refine ow (oT T1 m 5 #[oR a1] [(.ref a1)]) (fun _ k => XS.aloadN X1.here hx rfl (hb hby d12_4) rfl rfl k) ?_
  refine ow (oT T1 m 6 #[oR a1] [(.int (0 : Int32)), (.ref a1)]) (fun _ k => XS.iconst X1.here hx rfl (hb hby d12_5) k) ?_
  obtain ⟨T2, h2, X2, e2, W2, st2⟩ := putF X1 hx hZ hown (host := "") (Or.inl (own_hw hw 63)) Via.refl eq1 pr2 pr1 (Or.inl (own_hw hw 64)) (own_hw hw 45) (ty := .int) (by decide) rfl rfl (g := (mkF m 6 #[oR a1] [(.int (0 : Int32)), (.ref a1)])) rfl rfl (hb hby d12_6)
  have sz2 : h2.size = h0.size := W2.size
  have N2 := Fr.snoc X2 N1 (by omega)
  have f2 : Fld Z h2 a1 oS8 "modCount" "I" (.int (0 : Int32)) := pr2.same W2
  refine ow (oT T2 m 9 #[oR a1] []) (st2) ?_
  obtain ⟨fs, hr, hrun, hended, hW, hsame⟩ := X2.leave (v := none) (fun _ => rfl)
  refine ⟨_, _, ?_, hP _ _ hrun hended ⟨_, _, rfl, ?_, ⟨_, rfl⟩, hW, hsame.mono (by decide) (by decide)⟩⟩
  · exact X2.returnOut hx Bd.returns (hb hby d12_9) hr
  ·
   show Qrm12 Z a1 mc h0 n0 _ T2.heap _
   have c4 : Exa Z h2 a1 oS1 := (pr1.wr W2)
   have c5 : Fld Z h2 a1 oS1 "elementData" oS3 .null := (pr3.other W2 (Or.inr (slot_ne (Or.inl (own_hw hw 67)) (Or.inl (own_hw hw 64)) (by decide) (t := (.array (.object oS2))) (t' := .int) (by decide) (by decide))))
   have c6 : Fld Z h2 a1 oS1 "size" "I" (.int (0 : Int32)) := (pr4.other W2 (Or.inr (slot_ne (Or.inl (own_hw hw 166)) (Or.inl (own_hw hw 64)) (by decide) (t := .int) (t' := .int) (by decide) (by decide))))
   rw [e2]
   exact ⟨rfl, N2, ((Keep.refl h0 [a1]).wr W2 (Or.inl (List.mem_of_getElem? (i := 0) rfl))), c4, f2, c5, c6⟩
theorem d11_0 : decode jdk_38_method_2_code 0 = .ok (.aload_n 0, 1) := by decide +kernel
theorem d11_1 : decode jdk_38_method_2_code 1 = .ok (.invokespecial 1, 3) := by decide +kernel
theorem d11_4 : decode jdk_38_method_2_code 4 = .ok (.aload_n 0, 1) := by decide +kernel
theorem d11_5 : decode jdk_38_method_2_code 5 = .ok (.getstatic 39, 3) := by decide +kernel
theorem d11_8 : decode jdk_38_method_2_code 8 = .ok (.putfield 9, 3) := by decide +kernel
theorem d11_11 : decode jdk_38_method_2_code 11 = .ok (.return_, 1) := by decide +kernel
theorem pn_11 : plainName "java/util/ArrayList" = true := by first | (simp [plainName, overriddenIn]; done) | decide +kernel
theorem ef_rm11 (m : MethodId) (x0 : Addr) : entryFrame m #[(.ref x0)] 1 = mkF m 0 #[.val (.ref x0)] [] := by first | (simp [entryFrame, mkF, argsToLocals, Value.category]; done) | rfl
def Qrm11 (Z : State) (a1 : Addr) (mc : Int32) (de : Addr) (h0 : Heap) (n0 : Nat) (v : Option Value) (h : Heap) (L : List Loc) : Prop := (v = none) ∧ (Fr n0 L) ∧ (Keep h0 h [a1]) ∧ (Exa Z h a1 "java/util/ArrayList") ∧ (Fld Z h a1 "java/util/AbstractList" "modCount" "I" (.int (0 : Int32))) ∧ (Fld Z h a1 "java/util/ArrayList" "elementData" "[Ljava/lang/Object;" (.ref de)) ∧ (Fld Z h a1 "java/util/ArrayList" "size" "I" (.int (0 : Int32)))
set_option maxRecDepth 65536 in
set_option maxHeartbeats 40000000 in
theorem rm11 (l : Launch) (Z : State) (a0 : Array Value) (hw : ∀ d ∈ tables_1, d.before a0 Z = true) (ws : List Jvm.Cond) (a1 : Addr) (mc : Int32) (de : Addr) (h0 : Heap) (n0 : Nat) (Z0 : n0 ≤ h0.size) (pr1 : Exa Z h0 a1 oS1) (pr2 : Fld Z h0 a1 oS8 "modCount" "I" (.int mc)) (pr3 : Fld Z h0 a1 oS1 "elementData" oS3 .null) (pr4 : Fld Z h0 a1 oS1 "size" "I" (.int (0 : Int32))) (pr5 : Sta Z h0 oS1 oS10 oS3 (.ref de)) (pr6 : n0 ≤ a1) :
    MetFree l oM31 (head1 (Jvm.Cond.code oM31 jdk_38_method_2_code 1 none :: ws) ({ frames := 3, cells := 0, slots := 0, locals := 36 } : Room)) (fun a U => a = #[(.ref a1)] ∧ Z.Warmed39 U.vm ∧ U.heap = h0) (fun _ _ _ _ _ => True) (fun _ U o U' => ∃ v L, o = .returned v ∧ Qrm11 Z a1 mc de h0 n0 v U'.heap L ∧ FrameEnd U o U' L ({ frames := 3, cells := 0, slots := 0, locals := 36 } : Room).cells ({ frames := 3, cells := 0, slots := 0, locals := 36 } : Room).slots) := by
  refine MetFree.of_bodySF (plainFor_of_name pn_11) hisR ?_
  intro p e s m args below meth c s₁ Bd hml0 hP0 hK
  obtain ⟨rfl, hZ, hh⟩ := hP0
  have hx := Bd.exec
  have hby := Bd.bytes
  have hml : c.maxLocals = 1 := hml0
  have hown : s.vm.findClass oS1 = some m.cls := findClass_of_methodNamed Bd.named
  have hnm := (name_of_methodNamed Bd.named Bd.method).1
  have X0 : Stand p l e ({ frames := 3, cells := 0, slots := 0, locals := 36 } : Room) s m #[(.ref a1)] below meth c s₁ [] 0 0 := Stand.of_body Bd
  have e0 : s₁.heap = h0 := by rw [← hh, Bd.state]; rfl
  have N0 := Fr.nil n0
  refine own_fin (st' := s₁.setTop (mkF m 0 #[oR a1] [])) (fun _ k => castTop (ef_rm11 m a1) k) (fun P hP => ?_)
  have lt_a1 : @LT.lt Nat _ a1 h0.size := pr1.lt
  refine ow (oT s₁ m 1 #[oR a1] [(.ref a1)]) (fun _ k => XS.aloadN X0.here hx rfl (hb hby d11_0) rfl rfl k) ?_
  obtain ⟨_, _, ⟨T1, LC1, kC1, nC1⟩, -, X1, ⟨Lc1, hQ1, lq1, yq1, zq1⟩, st1⟩ := X0.specialBack hx (y := oM30) rfl hown (mvT hZ (own_hw hw 50)) (mvT hZ (own_hw hw 51)) (mvT hZ (own_hw hw 55)) (by decide) (backOf (W := 0) (rm12 l Z a0 hw [] a1 mc h0 n0 (by omega) pr1 pr2 pr3 pr4 (by omega)) hZ (own_hw hw 55) (own_hw hw 54) (by decide) (by decide)) (g := (mkF m 1 #[oR a1] [(.ref a1)])) rfl hml.symm (Steps.refl _) (a := a1) (argsL := []) (rest := []) (lenOf pd_8 rfl) rfl (Nat.le_of_eq rfl) (hb hby d11_1) (fun _ _ => ⟨rfl, e0, (by decide : 0 + 0 ≤ _), (by decide : 0 + 0 ≤ _)⟩)
  dsimp only [Pt.U, Pt.locs, Pt.cells, Pt.slots] at X1 lq1 yq1 zq1 st1 hQ1
  subst lq1 yq1 zq1
  obtain ⟨h1, e1⟩ : ∃ z, T1.heap = z := ⟨_, rfl⟩
  rw [e1] at hQ1
  obtain ⟨rfl, Nq1, K1, g1_0, g1_1, g1_2, g1_3⟩ := hQ1
  have sz1 : h0.size ≤ h1.size := K1.1
  have N1 := Fr.app N0 Nq1
  have lt1_1 : @LT.lt Nat _ a1 h1.size := g1_0.lt
  refine ow (oT T1 m 4 #[oR a1] []) (fun _ k => st1.trans k) ?_
  refine ow (oT T1 m 5 #[oR a1] [(.ref a1)]) (fun _ k => XS.aloadN X1.here hx rfl (hb hby d11_4) rfl rfl k) ?_
  have c2 : Sta Z h1 oS1 oS10 oS3 (.ref de) := (own_sta_keep pr5 K1 (allS (P := fun x => ∀ c : Cell, h0[x]? = some c → c.vm.isStatics = false) (own_pl_exa pr1) all0))
  obtain ⟨T3, X3, e3, st3⟩ := getS2 X1 hx hZ hown (host := "") (Or.inl (own_hw hw 65)) Via.refl e1 c2 (g := (mkF m 5 #[oR a1] [(.ref a1)])) rfl (hb hby d11_5)
  refine ow (oT T3 m 8 #[oR a1] [(.ref de), (.ref a1)]) (st3) ?_
  obtain ⟨T4, h4, X4, e4, W4, st4⟩ := putF X3 hx hZ hown (host := "") (Or.inl (own_hw hw 66)) Via.refl e3 g1_2 g1_0 (Or.inl (own_hw hw 67)) (own_hw hw 45) (ty := (.array (.object oS2))) (by decide) rfl rfl (g := (mkF m 8 #[oR a1] [(.ref de), (.ref a1)])) rfl rfl (hb hby d11_8)
  have sz4 : h4.size = h1.size := W4.size
  have N4 := Fr.snoc X4 N1 (by omega)
  have f4 : Fld Z h4 a1 oS1 "elementData" oS3 (.ref de) := g1_2.same W4
  refine ow (oT T4 m 11 #[oR a1] []) (st4) ?_
  obtain ⟨fs, hr, hrun, hended, hW, hsame⟩ := X4.leave (v := none) (fun _ => rfl)
  refine ⟨_, _, ?_, hP _ _ hrun hended ⟨_, _, rfl, ?_, ⟨_, rfl⟩, hW, hsame.mono (by decide) (by decide)⟩⟩
  · exact X4.returnOut hx Bd.returns (hb hby d11_11) hr
  ·
   show Qrm11 Z a1 mc de h0 n0 _ T4.heap _
   have c6 : Exa Z h4 a1 oS1 := (g1_0.wr W4)
   have c7 : Fld Z h4 a1 oS8 "modCount" "I" (.int (0 : Int32)) := (g1_1.other W4 (Or.inr (slot_ne (Or.inl (own_hw hw 64)) (Or.inl (own_hw hw 67)) (by decide) (t := .int) (t' := (.array (.object oS2))) (by decide) (by decide))))
   have c8 : Fld Z h4 a1 oS1 "size" "I" (.int (0 : Int32)) := (g1_3.other W4 (Or.inr (slot_ne (Or.inl (own_hw hw 166)) (Or.inl (own_hw hw 67)) (by decide) (t := .int) (t' := (.array (.object oS2))) (by decide) (by decide))))
   rw [e4]
   exact ⟨rfl, N4, (((Keep.refl h0 [a1]).trans K1 (allS (P := fun x => x ∈ [a1] ∨ h0.size ≤ x) (Or.inl (List.mem_of_getElem? (i := 0) rfl)) all0)).wr W4 (Or.inl (List.mem_of_getElem? (i := 0) rfl))), c6, c7, f4, c8⟩
theorem d33_0 : decode jdk_29_method_65_code 0 = .ok (.iload_n 0, 1) := by decide +kernel
theorem d33_1 : decode jdk_29_method_65_code 1 = .ok (.iload_n 1, 1) := by decide +kernel
theorem d33_2 : decode jdk_29_method_65_code 2 = .ok (.if_icmp .lt 7, 3) := by decide +kernel
theorem d33_5 : decode jdk_29_method_65_code 5 = .ok (.iload_n 0, 1) := by decide +kernel
theorem d33_6 : decode jdk_29_method_65_code 6 = .ok (.goto 4, 3) := by decide +kernel
theorem d33_10 : decode jdk_29_method_65_code 10 = .ok (.ireturn, 1) := by decide +kernel
theorem pn_33 : plainFor (⟨"java/lang/Math", "max", "(II)I"⟩ : MethodName) = true := by decide +kernel
theorem ef_rm33 (m : MethodId) (x0 : Int32) (x1 : Int32) : entryFrame m #[(.int x0), (.int x1)] 2 = mkF m 0 #[.val (.int x0), .val (.int x1)] [] := by first | (simp [entryFrame, mkF, argsToLocals, Value.category]; done) | rfl
def Qrm33 (Z : State)  (h0 : Heap) (n0 : Nat) (v : Option Value) (h : Heap) (L : List Loc) : Prop := (v = some (.int (10 : Int32))) ∧ (Fr n0 L) ∧ (h = h0)
set_option maxRecDepth 65536 in
set_option maxHeartbeats 40000000 in
theorem rm33 (l : Launch) (Z : State) (a0 : Array Value) (hw : ∀ d ∈ tables_1, d.before a0 Z = true) (ws : List Jvm.Cond)  (h0 : Heap) (n0 : Nat) (Z0 : n0 ≤ h0.size)  :
    MetFree l oM32 (head1 (Jvm.Cond.code oM32 jdk_29_method_65_code 2 (some .int) :: ws) ({ frames := 0, cells := 0, slots := 0, locals := 0 } : Room)) (fun a U => a = #[(.int (10 : Int32)), (.int (1 : Int32))] ∧ Z.Warmed39 U.vm ∧ U.heap = h0) (fun _ _ _ _ _ => True) (fun _ U o U' => ∃ v L, o = .returned v ∧ Qrm33 Z  h0 n0 v U'.heap L ∧ FrameEnd U o U' L ({ frames := 0, cells := 0, slots := 0, locals := 0 } : Room).cells ({ frames := 0, cells := 0, slots := 0, locals := 0 } : Room).slots) := by
  refine MetFree.of_bodySF pn_33 hisR ?_
  intro p e s m args below meth c s₁ Bd hml0 hP0 hK
  obtain ⟨rfl, hZ, hh⟩ := hP0
  have hx := Bd.exec
  have hby := Bd.bytes
  have hml : c.maxLocals = 2 := hml0
  have hown : s.vm.findClass "java/lang/Math" = some m.cls := findClass_of_methodNamed Bd.named
  have hnm := (name_of_methodNamed Bd.named Bd.method).1
  have X0 : Stand p l e ({ frames := 0, cells := 0, slots := 0, locals := 0 } : Room) s m #[(.int (10 : Int32)), (.int (1 : Int32))] below meth c s₁ [] 0 0 := Stand.of_body Bd
  have e0 : s₁.heap = h0 := by rw [← hh, Bd.state]; rfl
  have N0 := Fr.nil n0
  refine own_fin (st' := s₁.setTop (mkF m 0 #[oi 10, oi 1] [])) (fun _ k => castTop (ef_rm33 m (10 : Int32) (1 : Int32)) k) (fun P hP => ?_)
  refine ow (oT s₁ m 1 #[oi 10, oi 1] [(.int (10 : Int32))]) (fun _ k => XS.iloadN X0.here hx rfl (hb hby d33_0) rfl k) ?_
  refine ow (oT s₁ m 2 #[oi 10, oi 1] [(.int (1 : Int32)), (.int (10 : Int32))]) (fun _ k => XS.iloadN X0.here hx rfl (hb hby d33_1) rfl k) ?_
  have hc1 : ¬ ((10 : Int32) < (1 : Int32)) := by decide
  refine ow (oT s₁ m 5 #[oi 10, oi 1] []) (fun _ k => XS.icmpNo X0.here hx rfl (hb hby d33_2) rfl (flt hc1).1 k) ?_
  refine ow (oT s₁ m 6 #[oi 10, oi 1] [(.int (10 : Int32))]) (fun _ k => XS.iloadN X0.here hx rfl (hb hby d33_5) rfl k) ?_
  refine ow (oT s₁ m 10 #[oi 10, oi 1] [(.int (10 : Int32))]) (fun _ k => XS.goto X0.here hx rfl (pc0 := 6) (pc' := 10) rfl (hb hby d33_6) (by decide) (by decide) k) ?_
  obtain ⟨fs, hr, hrun, hended, hW, hsame⟩ := X0.leave (v := some (.int (10 : Int32))) (fun h => by rw [Bd.returns] at h; cases h)
  refine ⟨_, _, ?_, hP _ _ hrun hended ⟨_, _, rfl, ?_, ⟨_, rfl⟩, hW, hsame.mono (by decide) (by decide)⟩⟩
  · exact retOut X0 hx Bd.returns rfl (Or.inl ⟨rfl, Or.inl rfl, _, rfl⟩) (hb hby d33_10) hr
  ·
   show Qrm33 Z  h0 n0 _ s₁.heap _
   rw [e0]
   exact ⟨rfl, N0, rfl⟩
theorem pd_9 : parseMethodDescriptor "(II)I" = some ⟨[.int, .int], some .int⟩ := by decide +kernel
theorem d32_0 : decode jdk_38_method_6_code 0 = .ok (.aload_n 0, 1) := by decide +kernel
theorem d32_1 : decode jdk_38_method_6_code 1 = .ok (.getfield 9, 3) := by decide +kernel
theorem d32_4 : decode jdk_38_method_6_code 4 = .ok (.arraylength, 1) := by decide +kernel
theorem d32_5 : decode jdk_38_method_6_code 5 = .ok (.istore_n 2, 1) := by decide +kernel
theorem d32_6 : decode jdk_38_method_6_code 6 = .ok (.iload_n 2, 1) := by decide +kernel
theorem d32_7 : decode jdk_38_method_6_code 7 = .ok (.ifCond .gt 13, 3) := by decide +kernel
theorem d32_10 : decode jdk_38_method_6_code 10 = .ok (.aload_n 0, 1) := by decide +kernel
theorem d32_11 : decode jdk_38_method_6_code 11 = .ok (.getfield 9, 3) := by decide +kernel
theorem d32_14 : decode jdk_38_method_6_code 14 = .ok (.getstatic 39, 3) := by decide +kernel
theorem d32_17 : decode jdk_38_method_6_code 17 = .ok (.if_acmp .eq 28, 3) := by decide +kernel
theorem d32_45 : decode jdk_38_method_6_code 45 = .ok (.aload_n 0, 1) := by decide +kernel
theorem d32_46 : decode jdk_38_method_6_code 46 = .ok (.bipush 10, 2) := by decide +kernel
theorem d32_48 : decode jdk_38_method_6_code 48 = .ok (.iload_n 1, 1) := by decide +kernel
theorem d32_49 : decode jdk_38_method_6_code 49 = .ok (.invokestatic 79, 3) := by decide +kernel
theorem d32_52 : decode jdk_38_method_6_code 52 = .ok (.anewarray 7, 3) := by decide +kernel
theorem d32_55 : decode jdk_38_method_6_code 55 = .ok (.dup_x1, 1) := by decide +kernel
theorem d32_56 : decode jdk_38_method_6_code 56 = .ok (.putfield 9, 3) := by decide +kernel
theorem d32_59 : decode jdk_38_method_6_code 59 = .ok (.areturn, 1) := by decide +kernel
theorem pn_32 : plainName "java/util/ArrayList" = true := by first | (simp [plainName, overriddenIn]; done) | decide +kernel
theorem ef_rm32 (m : MethodId) (x0 : Addr) (x1 : Int32) : entryFrame m #[(.ref x0), (.int x1)] 4 = mkF m 0 #[.val (.ref x0), .val (.int x1), .unset, .unset] [] := by first | (simp [entryFrame, mkF, argsToLocals, Value.category]; done) | rfl
def Qrm32 (Z : State) (a1 : Addr) (mc : Int32) (de : Addr) (kde : ClassId) (h0 : Heap) (n0 : Nat) (v : Option Value) (h : Heap) (L : List Loc) : Prop := ∃ (ea : Addr) (ke : ClassId), (v = some (.ref ea)) ∧ (Fr n0 L) ∧ (Keep h0 h [a1]) ∧ (Exa Z h a1 "java/util/ArrayList") ∧ (Fld Z h a1 "java/util/AbstractList" "modCount" "I" (.int mc)) ∧ (Fld Z h a1 "java/util/ArrayList" "elementData" "[Ljava/lang/Object;" (.ref ea)) ∧ (Fld Z h a1 "java/util/ArrayList" "size" "I" (.int (0 : Int32))) ∧ (Arv Z h ea ke (.object "java/lang/Object") (10 : Int32) [.null, .null, .null, .null, .null, .null, .null, .null, .null, .null] .null) ∧ (Ovr Z ke "java/lang/Object") ∧ (h0.size ≤ ea)
set_option maxRecDepth 65536 in
set_option maxHeartbeats 40000000 in
theorem rm32 (l : Launch) (Z : State) (a0 : Array Value) (hw : ∀ d ∈ tables_1, d.before a0 Z = true) (ws : List Jvm.Cond) (a1 : Addr) (mc : Int32) (de : Addr) (kde : ClassId) (h0 : Heap) (n0 : Nat) (Z0 : n0 ≤ h0.size) (pr1 : Exa Z h0 a1 oS1) (pr2 : Fld Z h0 a1 oS8 "modCount" "I" (.int mc)) (pr3 : Fld Z h0 a1 oS1 "elementData" oS3 (.ref de)) (pr4 : Fld Z h0 a1 oS1 "size" "I" (.int (0 : Int32))) (pr5 : Sta Z h0 oS1 oS10 oS3 (.ref de)) (pr6 : Arv Z h0 de kde (.object oS2) (0 : Int32) [] .null) (pr7 : n0 ≤ a1) (pr8 : @Ne Nat a1 de) :
    MetFree l oM33 (head1 (Jvm.Cond.code oM33 jdk_38_method_6_code 4 (some (.array (.object oS2))) :: ws) ({ frames := 1, cells := 1, slots := 10, locals := 14 } : Room)) (fun a U => a = #[(.ref a1), (.int (1 : Int32))] ∧ Z.Warmed39 U.vm ∧ U.heap = h0) (fun _ _ _ _ _ => True) (fun _ U o U' => ∃ v L, o = .returned v ∧ Qrm32 Z a1 mc de kde h0 n0 v U'.heap L ∧ FrameEnd U o U' L ({ frames := 1, cells := 1, slots := 10, locals := 14 } : Room).cells ({ frames := 1, cells := 1, slots := 10, locals := 14 } : Room).slots) := by
  refine MetFree.of_bodySF (plainFor_of_name pn_32) hisR ?_
  intro p e s m args below meth c s₁ Bd hml0 hP0 hK
  obtain ⟨rfl, hZ, hh⟩ := hP0
  have hx := Bd.exec
  have hby := Bd.bytes
  have hml : c.maxLocals = 4 := hml0
  have hown : s.vm.findClass oS1 = some m.cls := findClass_of_methodNamed Bd.named
  have hnm := (name_of_methodNamed Bd.named Bd.method).1
  have X0 : Stand p l e ({ frames := 1, cells := 1, slots := 10, locals := 14 } : Room) s m #[(.ref a1), (.int (1 : Int32))] below meth c s₁ [] 0 0 := Stand.of_body Bd
  have e0 : s₁.heap = h0 := by rw [← hh, Bd.state]; rfl
  have N0 := Fr.nil n0
  refine own_fin (st' := s₁.setTop (mkF m 0 #[oR a1, oi 1, .unset, .unset] [])) (fun _ k => castTop (ef_rm32 m a1 (1 : Int32)) k) (fun P hP => ?_)
  have lt_a1 : @LT.lt Nat _ a1 h0.size := pr1.lt
  have lt_de : @LT.lt Nat _ de h0.size := pr6.lt
  refine ow (oT s₁ m 1 #[oR a1, oi 1, .unset, .unset] [(.ref a1)]) (fun _ k => XS.aloadN X0.here hx rfl (hb hby d32_0) rfl rfl k) ?_
  obtain ⟨T1, X1, e1, st1⟩ := getF X0 hx hZ hown (host := "") (Or.inl (own_hw hw 66)) Via.refl e0 pr3 (g := (mkF m 1 #[oR a1, oi 1, .unset, .unset] [(.ref a1)])) rfl rfl (hb hby d32_1)
  refine ow (oT T1 m 4 #[oR a1, oi 1, .unset, .unset] [(.ref de)]) (st1) ?_
  obtain ⟨cl2, Ar2, -, S2, M2, -, -⟩ := id pr6
  refine ow (oT T1 m 5 #[oR a1, oi 1, .unset, .unset] [(.int (0 : Int32))]) (fun t k => X1.arraylength hx (by rw [e1]; exact Ar2.1) (State.isArrayOf_alike hZ.alike Ar2.2.1) (g := (mkF m 4 #[oR a1, oi 1, .unset, .unset] [(.ref de)])) rfl rfl (hb hby d32_4) t (by rw [len_of S2 M2]; exact k)) ?_
  refine ow (oT T1 m 6 #[oR a1, oi 1, oi 0, .unset] []) (fun _ k => XS.istoreN X1.here hx rfl (hb hby d32_5) rfl (l' := #[oR a1, oi 1, oi 0, .unset]) rfl k) ?_
  refine ow (oT T1 m 7 #[oR a1, oi 1, oi 0, .unset] [(.int (0 : Int32))]) (fun _ k => XS.iloadN X1.here hx rfl (hb hby d32_6) rfl k) ?_
  have hc3 : ¬ ((0 : Int32) < (0 : Int32)) := by decide
  refine ow (oT T1 m 10 #[oR a1, oi 1, oi 0, .unset] []) (fun _ k => XS.ifNo X1.here hx rfl (hb hby d32_7) rfl ((if0 _ _).trans (flt hc3).2.2.1) k) ?_
  refine ow (oT T1 m 11 #[oR a1, oi 1, oi 0, .unset] [(.ref a1)]) (fun _ k => XS.aloadN X1.here hx rfl (hb hby d32_10) rfl rfl k) ?_
  obtain ⟨T4, X4, e4, st4⟩ := getF X1 hx hZ hown (host := "") (Or.inl (own_hw hw 66)) Via.refl e1 pr3 (g := (mkF m 11 #[oR a1, oi 1, oi 0, .unset] [(.ref a1)])) rfl rfl (hb hby d32_11)
  refine ow (oT T4 m 14 #[oR a1, oi 1, oi 0, .unset] [(.ref de)]) (st4) ?_
  obtain ⟨T5, X5, e5, st5⟩ := getS2 X4 hx hZ hown (host := "") (Or.inl (own_hw hw 65)) Via.refl e4 pr5 (g := (mkF m 14 #[oR a1, oi 1, oi 0, .unset] [(.ref de)])) rfl (hb hby d32_14)
  refine ow (oT T5 m 17 #[oR a1, oi 1, oi 0, .unset] [(.ref de), (.ref de)]) (st5) ?_
  refine ow (oT T5 m 45 #[oR a1, oi 1, oi 0, .unset] []) (fun _ k => Jvm.RoadKit.acmp (g := (mkF m 17 #[oR a1, oi 1, oi 0, .unset] [(.ref de), (.ref de)])) X5 hx rfl rfl rfl (pc0 := 17) (pc' := 45) (same := true) rfl (hb hby d32_17) rfl (decide_eq_true rfl) (by decide) (by decide) k) ?_
  refine ow (oT T5 m 46 #[oR a1, oi 1, oi 0, .unset] [(.ref a1)]) (fun _ k => XS.aloadN X5.here hx rfl (hb hby d32_45) rfl rfl k) ?_
  refine ow (oT T5 m 48 #[oR a1, oi 1, oi 0, .unset] [(.int (10 : Int32)), (.ref a1)]) (fun _ k => XS.bipush X5.here hx rfl (hb hby d32_46) k) ?_
  refine ow (oT T5 m 49 #[oR a1, oi 1, oi 0, .unset] [(.int (1 : Int32)), (.int (10 : Int32)), (.ref a1)]) (fun _ k => XS.iloadN X5.here hx rfl (hb hby d32_48) rfl k) ?_
  obtain ⟨_, _, ⟨T6, LC6, kC6, nC6⟩, -, X6, ⟨Lc6, hQ6, lq6, yq6, zq6⟩, st6⟩ := Jvm.LawKit.callS X5 hx (y := oM32) hown (mvT hZ (own_hw hw 192)) (mvT hZ (own_hw hw 193)) (mvT hZ (own_hw hw 194)) (mvT hZ (own_hw hw 195)) (by decide) (backOf (W := 1) (rm33 l Z a0 hw []  h0 n0 (by omega) ) hZ (own_hw hw 195) (own_hw hw 194) (by decide) (by decide)) (g := (mkF m 49 #[oR a1, oi 1, oi 0, .unset] [(.int (1 : Int32)), (.int (10 : Int32)), (.ref a1)])) rfl hml.symm (argsL := [(.int (10 : Int32)), (.int (1 : Int32))]) (rest := [(.ref a1)]) (lenOf pd_9 rfl) rfl (Nat.le_of_eq rfl) (hb hby d32_49) (fun _ _ => ⟨rfl, e5, (by decide : 0 + 0 ≤ _), (by decide : 0 + 0 ≤ _)⟩)
  dsimp only [Pt.U, Pt.locs, Pt.cells, Pt.slots] at X6 lq6 yq6 zq6 st6 hQ6
  subst lq6 yq6 zq6
  obtain ⟨rfl, Nq6, eq6⟩ := hQ6
  have N6 := Fr.app N0 Nq6
  refine ow (oT T6 m 52 #[oR a1, oi 1, oi 0, .unset] [(.int (10 : Int32)), (.ref a1)]) (fun t k => st6 t k) ?_
  obtain ⟨T7, h7, k7, X7, e7, E7, A7, O7, st7⟩ := newR X6 hx hZ hown (own_hw hw 196) (own_hw hw 197) eq6 (g := (mkF m 52 #[oR a1, oi 1, oi 0, .unset] [(.int (10 : Int32)), (.ref a1)])) rfl (hb hby d32_52) rfl (by decide) (cap := 10) (by decide) (by decide) (by decide) (by decide)
  obtain ⟨b7, g7⟩ : ∃ z, z = h0.size := ⟨_, rfl⟩
  rw [← g7] at A7 st7
  have sz7 : h0.size ≤ h7.size := E7.1
  have lt7 : @LT.lt Nat _ b7 h7.size := A7.lt
  have v7 : Arv Z h7 b7 k7 (.object oS2) (10 : Int32) [.null, .null, .null, .null, .null, .null, .null, .null, .null, .null] .null := (Arv.new A7 (by decide)).pad (pad_rep [] .null 10)
  refine ow (oT T7 m 55 #[oR a1, oi 1, oi 0, .unset] [(.ref b7), (.ref a1)]) (st7) ?_
  refine ow (oT T7 m 56 #[oR a1, oi 1, oi 0, .unset] [(.ref b7), (.ref a1), (.ref b7)]) (fun _ k => XS.dupX1 X7.here hx rfl (hb hby d32_55) rfl rfl rfl k) ?_
  have c8 : Fld Z h7 a1 oS1 "elementData" oS3 (.ref de) := (pr3.ext E7)
  have c9 : Exa Z h7 a1 oS1 := (pr1.ext E7)
  obtain ⟨T10, h10, X10, e10, W10, st10⟩ := putF X7 hx hZ hown (host := "") (Or.inl (own_hw hw 66)) Via.refl e7 c8 c9 (Or.inl (own_hw hw 67)) (own_hw hw 45) (ty := (.array (.object oS2))) (by decide) rfl rfl (g := (mkF m 56 #[oR a1, oi 1, oi 0, .unset] [(.ref b7), (.ref a1), (.ref b7)])) rfl rfl (hb hby d32_56)
  have sz10 : h10.size = h7.size := W10.size
  have N10 := Fr.snoc X10 N6 (by omega)
  have f10 : Fld Z h10 a1 oS1 "elementData" oS3 (.ref b7) := c8.same W10
  refine ow (oT T10 m 59 #[oR a1, oi 1, oi 0, .unset] [(.ref b7)]) (st10) ?_
  obtain ⟨fs, hr, hrun, hended, hW, hsame⟩ := X10.leave (v := some (.ref b7)) (fun h => by rw [Bd.returns] at h; cases h)
  refine ⟨_, _, ?_, hP _ _ hrun hended ⟨_, _, rfl, ?_, ⟨_, rfl⟩, hW, hsame.mono (by decide) (by decide)⟩⟩
  · exact retOut X10 hx Bd.returns rfl (Or.inr (Or.inr (Or.inr (Or.inr ⟨rfl, rfl, rfl⟩)))) (hb hby d32_59) hr
  ·
   show Qrm32 Z a1 mc de kde h0 n0 _ T10.heap _
   have c12 : Exa Z h10 a1 oS1 := (c9.wr W10)
   have c13 : Fld Z h10 a1 oS8 "modCount" "I" (.int mc) := ((pr2.ext E7).other W10 (Or.inr (slot_ne (Or.inl (own_hw hw 64)) (Or.inl (own_hw hw 67)) (by decide) (t := .int) (t' := (.array (.object oS2))) (by decide) (by decide))))
   have c14 : Fld Z h10 a1 oS1 "size" "I" (.int (0 : Int32)) := ((pr4.ext E7).other W10 (Or.inr (slot_ne (Or.inl (own_hw hw 166)) (Or.inl (own_hw hw 67)) (by decide) (t := .int) (t' := (.array (.object oS2))) (by decide) (by decide))))
   have c15 : Arv Z h10 b7 k7 (.object oS2) (10 : Int32) [.null, .null, .null, .null, .null, .null, .null, .null, .null, .null] .null := (v7.other W10 (own_ne (by omega)))
   rw [e10]
   exact ⟨b7, k7, rfl, N10, (((Keep.refl h0 [a1]).ext E7).wr W10 (Or.inl (List.mem_of_getElem? (i := 0) rfl))), c12, c13, f10, c14, c15, O7, (by omega)⟩
theorem pd_10 : parseMethodDescriptor "(I)[Ljava/lang/Object;" = some ⟨[.int], some (.array (.object "java/lang/Object"))⟩ := by decide +kernel
theorem d31_0 : decode jdk_38_method_7_code 0 = .ok (.aload_n 0, 1) := by decide +kernel
theorem d31_1 : decode jdk_38_method_7_code 1 = .ok (.aload_n 0, 1) := by decide +kernel
theorem d31_2 : decode jdk_38_method_7_code 2 = .ok (.getfield 48, 3) := by decide +kernel
theorem d31_5 : decode jdk_38_method_7_code 5 = .ok (.iconst 1, 1) := by decide +kernel
theorem d31_6 : decode jdk_38_method_7_code 6 = .ok (.iadd, 1) := by decide +kernel
theorem d31_7 : decode jdk_38_method_7_code 7 = .ok (.invokevirtual 69, 3) := by decide +kernel
theorem d31_10 : decode jdk_38_method_7_code 10 = .ok (.areturn, 1) := by decide +kernel
theorem pn_31 : plainName "java/util/ArrayList" = true := by first | (simp [plainName, overriddenIn]; done) | decide +kernel
theorem ef_rm31 (m : MethodId) (x0 : Addr) : entryFrame m #[(.ref x0)] 1 = mkF m 0 #[.val (.ref x0)] [] := by first | (simp [entryFrame, mkF, argsToLocals, Value.category]; done) | rfl
def Qrm31 (Z : State) (a1 : Addr) (mc : Int32) (de : Addr) (kde : ClassId) (h0 : Heap) (n0 : Nat) (v : Option Value) (h : Heap) (L : List Loc) : Prop := ∃ (ea : Addr) (ke : ClassId), (v = some (.ref ea)) ∧ (Fr n0 L) ∧ (Keep h0 h [a1]) ∧ (Exa Z h a1 "java/util/ArrayList") ∧ (Fld Z h a1 "java/util/AbstractList" "modCount" "I" (.int mc)) ∧ (Fld Z h a1 "java/util/ArrayList" "elementData" "[Ljava/lang/Object;" (.ref ea)) ∧ (Fld Z h a1 "java/util/ArrayList" "size" "I" (.int (0 : Int32))) ∧ (Arv Z h ea ke (.object "java/lang/Object") (10 : Int32) [.null, .null, .null, .null, .null, .null, .null, .null, .null, .null] .null) ∧ (Ovr Z ke "java/lang/Object") ∧ (h0.size ≤ ea)
set_option maxRecDepth 65536 in
set_option maxHeartbeats 40000000 in
theorem rm31 (l : Launch) (Z : State) (a0 : Array Value) (hw : ∀ d ∈ tables_1, d.before a0 Z = true) (ws : List Jvm.Cond) (a1 : Addr) (mc : Int32) (de : Addr) (kde : ClassId) (h0 : Heap) (n0 : Nat) (Z0 : n0 ≤ h0.size) (pr1 : Exa Z h0 a1 oS1) (pr2 : Fld Z h0 a1 oS8 "modCount" "I" (.int mc)) (pr3 : Fld Z h0 a1 oS1 "elementData" oS3 (.ref de)) (pr4 : Fld Z h0 a1 oS1 "size" "I" (.int (0 : Int32))) (pr5 : Sta Z h0 oS1 oS10 oS3 (.ref de)) (pr6 : Arv Z h0 de kde (.object oS2) (0 : Int32) [] .null) (pr7 : n0 ≤ a1) (pr8 : @Ne Nat a1 de) :
    MetFree l oM34 (head1 (Jvm.Cond.code oM34 jdk_38_method_7_code 1 (some (.array (.object oS2))) :: ws) ({ frames := 2, cells := 1, slots := 10, locals := 29 } : Room)) (fun a U => a = #[(.ref a1)] ∧ Z.Warmed39 U.vm ∧ U.heap = h0) (fun _ _ _ _ _ => True) (fun _ U o U' => ∃ v L, o = .returned v ∧ Qrm31 Z a1 mc de kde h0 n0 v U'.heap L ∧ FrameEnd U o U' L ({ frames := 2, cells := 1, slots := 10, locals := 29 } : Room).cells ({ frames := 2, cells := 1, slots := 10, locals := 29 } : Room).slots) := by
  refine MetFree.of_bodySF (plainFor_of_name pn_31) hisR ?_
  intro p e s m args below meth c s₁ Bd hml0 hP0 hK
  obtain ⟨rfl, hZ, hh⟩ := hP0
  have hx := Bd.exec
  have hby := Bd.bytes
  have hml : c.maxLocals = 1 := hml0
  have hown : s.vm.findClass oS1 = some m.cls := findClass_of_methodNamed Bd.named
  have hnm := (name_of_methodNamed Bd.named Bd.method).1
  have X0 : Stand p l e ({ frames := 2, cells := 1, slots := 10, locals := 29 } : Room) s m #[(.ref a1)] below meth c s₁ [] 0 0 := Stand.of_body Bd
  have e0 : s₁.heap = h0 := by rw [← hh, Bd.state]; rfl
  have N0 := Fr.nil n0
  refine own_fin (st' := s₁.setTop (mkF m 0 #[oR a1] [])) (fun _ k => castTop (ef_rm31 m a1) k) (fun P hP => ?_)
  have lt_a1 : @LT.lt Nat _ a1 h0.size := pr1.lt
  have lt_de : @LT.lt Nat _ de h0.size := pr6.lt
  refine ow (oT s₁ m 1 #[oR a1] [(.ref a1)]) (fun _ k => XS.aloadN X0.here hx rfl (hb hby d31_0) rfl rfl k) ?_
  refine ow (oT s₁ m 2 #[oR a1] [(.ref a1), (.ref a1)]) (fun _ k => XS.aloadN X0.here hx rfl (hb hby d31_1) rfl rfl k) ?_
  obtain ⟨T1, X1, e1, st1⟩ := getF X0 hx hZ hown (host := "") (Or.inl (own_hw hw 165)) Via.refl e0 pr4 (g := (mkF m 2 #[oR a1] [(.ref a1), (.ref a1)])) rfl rfl (hb hby d31_2)
  refine ow (oT T1 m 5 #[oR a1] [(.int (0 : Int32)), (.ref a1)]) (st1) ?_
  refine ow (oT T1 m 6 #[oR a1] [(.int (1 : Int32)), (.int (0 : Int32)), (.ref a1)]) (fun _ k => XS.iconst X1.here hx rfl (hb hby d31_5) k) ?_
  refine ow (oT T1 m 7 #[oR a1] [(.int (1 : Int32)), (.ref a1)]) (fun _ k => XS.iadd X1.here hx rfl (hb hby d31_6) rfl (by rw [show ((0 : Int32) + (1 : Int32)) = (1 : Int32) by decide]; exact k)) ?_
  obtain ⟨cq2, qc2, qc2'⟩ := (pr1).cell
  obtain ⟨_, _, ⟨T2, LC2, kC2, nC2⟩, -, X2, ⟨Lc2, hQ2, lq2, yq2, zq2⟩, st2⟩ := X1.privateBack hx (y := oM33) hown (mvT hZ (own_hw hw 187)) (mvT hZ (own_hw hw 188)) (mvT hZ (own_hw hw 190)) (Cond.privateMethod_at (mvP hZ (own_hw hw 189) (args := #[]))) (mvT hZ (own_hw hw 191)) (by decide) (backOf (W := 0) (rm32 l Z a0 hw [] a1 mc de kde h0 n0 (by omega) pr1 pr2 pr3 pr4 pr5 pr6 (by omega) (own_ne (by omega))) hZ (own_hw hw 191) (own_hw hw 46) (by decide) (by decide)) (g := (mkF m 7 #[oR a1] [(.int (1 : Int32)), (.ref a1)])) rfl hml.symm (Steps.refl _) (a := a1) (by rw [e1]; exact qc2) qc2' (argsL := [(.int (1 : Int32))]) (rest := []) (lenOf pd_10 rfl) rfl (Nat.le_of_eq rfl) (hb hby d31_7) (fun _ _ => ⟨rfl, e1, (by decide : 0 + 1 ≤ _), (by decide : 0 + 10 ≤ _)⟩)
  dsimp only [Pt.U, Pt.locs, Pt.cells, Pt.slots] at X2 lq2 yq2 zq2 st2 hQ2
  subst lq2 yq2 zq2
  obtain ⟨h2, e2⟩ : ∃ z, T2.heap = z := ⟨_, rfl⟩
  rw [e2] at hQ2
  obtain ⟨ea_2, ke_2, rfl, Nq2, K2, g2_0, g2_1, g2_2, g2_3, g2_4, g2_5, g2_6⟩ := hQ2
  have sz2 : h0.size ≤ h2.size := K2.1
  have N2 := Fr.app N0 Nq2
  have lt2_1 : @LT.lt Nat _ a1 h2.size := g2_0.lt
  have lt2_2 : @LT.lt Nat _ ea_2 h2.size := g2_4.lt
  refine ow (oT T2 m 10 #[oR a1] [(.ref ea_2)]) (fun _ k => st2.trans k) ?_
  obtain ⟨fs, hr, hrun, hended, hW, hsame⟩ := X2.leave (v := some (.ref ea_2)) (fun h => by rw [Bd.returns] at h; cases h)
  refine ⟨_, _, ?_, hP _ _ hrun hended ⟨_, _, rfl, ?_, ⟨_, rfl⟩, hW, hsame.mono (by decide) (by decide)⟩⟩
  · exact retOut X2 hx Bd.returns rfl (Or.inr (Or.inr (Or.inr (Or.inr ⟨rfl, rfl, rfl⟩)))) (hb hby d31_10) hr
  ·
   show Qrm31 Z a1 mc de kde h0 n0 _ T2.heap _
   rw [e2]
   exact ⟨ea_2, ke_2, rfl, N2, ((Keep.refl h0 [a1]).trans K2 (allS (P := fun x => x ∈ [a1] ∨ h0.size ≤ x) (Or.inl (List.mem_of_getElem? (i := 0) rfl)) all0)), g2_0, g2_1, g2_2, g2_3, g2_4, g2_5, (by omega)⟩
theorem pd_11 : parseMethodDescriptor "()[Ljava/lang/Object;" = some ⟨[], some (.array (.object "java/lang/Object"))⟩ := by decide +kernel
theorem d30_0 : decode jdk_38_method_24_code 0 = .ok (.iload_n 3, 1) := by decide +kernel
theorem d30_1 : decode jdk_38_method_24_code 1 = .ok (.aload_n 2, 1) := by decide +kernel
theorem d30_2 : decode jdk_38_method_24_code 2 = .ok (.arraylength, 1) := by decide +kernel
theorem d30_3 : decode jdk_38_method_24_code 3 = .ok (.if_icmp .ne 8, 3) := by decide +kernel
theorem d30_6 : decode jdk_38_method_24_code 6 = .ok (.aload_n 0, 1) := by decide +kernel
theorem d30_7 : decode jdk_38_method_24_code 7 = .ok (.invokevirtual 129, 3) := by decide +kernel
theorem d30_10 : decode jdk_38_method_24_code 10 = .ok (.astore_n 2, 1) := by decide +kernel
theorem d30_11 : decode jdk_38_method_24_code 11 = .ok (.aload_n 2, 1) := by decide +kernel
theorem d30_12 : decode jdk_38_method_24_code 12 = .ok (.iload_n 3, 1) := by decide +kernel
theorem d30_13 : decode jdk_38_method_24_code 13 = .ok (.aload_n 1, 1) := by decide +kernel
theorem d30_14 : decode jdk_38_method_24_code 14 = .ok (.aastore, 1) := by decide +kernel
theorem d30_15 : decode jdk_38_method_24_code 15 = .ok (.aload_n 0, 1) := by decide +kernel
theorem d30_16 : decode jdk_38_method_24_code 16 = .ok (.iload_n 3, 1) := by decide +kernel
theorem d30_17 : decode jdk_38_method_24_code 17 = .ok (.iconst 1, 1) := by decide +kernel
theorem d30_18 : decode jdk_38_method_24_code 18 = .ok (.iadd, 1) := by decide +kernel
theorem d30_19 : decode jdk_38_method_24_code 19 = .ok (.putfield 48, 3) := by decide +kernel
theorem d30_22 : decode jdk_38_method_24_code 22 = .ok (.return_, 1) := by decide +kernel
theorem pn_30 : plainName "java/util/ArrayList" = true := by first | (simp [plainName, overriddenIn]; done) | decide +kernel
theorem ef_rad_0 (m : MethodId) (x0 : Addr) (x1 : Addr) (x2 : Addr) (x3 : Int32) : entryFrame m #[(.ref x0), (.ref x1), (.ref x2), (.int x3)] 4 = mkF m 0 #[.val (.ref x0), .val (.ref x1), .val (.ref x2), .val (.int x3)] [] := by first | (simp [entryFrame, mkF, argsToLocals, Value.category]; done) | rfl
def Qrad_0 (Z : State) (a1 : Addr) (mc : Int32) (ae : Addr) (de : Addr) (kde : ClassId) (h0 : Heap) (n0 : Nat) (v : Option Value) (h : Heap) (L : List Loc) : Prop := ∃ (ea : Addr) (ke : ClassId), (v = none) ∧ (Fr n0 L) ∧ (Keep h0 h [a1]) ∧ (Exa Z h a1 "java/util/ArrayList") ∧ (Fld Z h a1 "java/util/AbstractList" "modCount" "I" (.int mc)) ∧ (Fld Z h a1 "java/util/ArrayList" "elementData" "[Ljava/lang/Object;" (.ref ea)) ∧ (Fld Z h a1 "java/util/ArrayList" "size" "I" (.int (1 : Int32))) ∧ (Arv Z h ea ke (.object "java/lang/Object") (10 : Int32) [(.ref ae), .null, .null, .null, .null, .null, .null, .null, .null, .null] .null) ∧ (Ovr Z ke "java/lang/Object") ∧ (h0.size ≤ ea)
set_option maxRecDepth 65536 in
set_option maxHeartbeats 40000000 in
theorem rad_0 (l : Launch) (Z : State) (a0 : Array Value) (hw : ∀ d ∈ tables_1, d.before a0 Z = true) (ws : List Jvm.Cond) (a1 : Addr) (mc : Int32) (ae : Addr) (de : Addr) (kde : ClassId) (h0 : Heap) (n0 : Nat) (Z0 : n0 ≤ h0.size) (pr1 : Exa Z h0 a1 oS1) (pr2 : Fld Z h0 a1 oS8 "modCount" "I" (.int mc)) (pr3 : Fld Z h0 a1 oS1 "elementData" oS3 (.ref de)) (pr4 : Fld Z h0 a1 oS1 "size" "I" (.int (0 : Int32))) (pr5 : Sta Z h0 oS1 oS10 oS3 (.ref de)) (pr6 : Arv Z h0 de kde (.object oS2) (0 : Int32) [] .null) (pr7 : n0 ≤ a1) (pr8 : @Ne Nat a1 de) (pr9 : Exa Z h0 ae oS0) :
    MetFree l oM16 (head1 (Jvm.Cond.code oM16 jdk_38_method_24_code 4 none :: ws) ({ frames := 3, cells := 1, slots := 10, locals := 41 } : Room)) (fun a U => a = #[(.ref a1), (.ref ae), (.ref de), (.int (0 : Int32))] ∧ Z.Warmed39 U.vm ∧ U.heap = h0) (fun _ _ _ _ _ => True) (fun _ U o U' => ∃ v L, o = .returned v ∧ Qrad_0 Z a1 mc ae de kde h0 n0 v U'.heap L ∧ FrameEnd U o U' L ({ frames := 3, cells := 1, slots := 10, locals := 41 } : Room).cells ({ frames := 3, cells := 1, slots := 10, locals := 41 } : Room).slots) := by
  refine MetFree.of_bodySF (plainFor_of_name pn_30) hisR ?_
  intro p e s m args below meth c s₁ Bd hml0 hP0 hK
  obtain ⟨rfl, hZ, hh⟩ := hP0
  have hx := Bd.exec
  have hby := Bd.bytes
  have hml : c.maxLocals = 4 := hml0
  have hown : s.vm.findClass oS1 = some m.cls := findClass_of_methodNamed Bd.named
  have hnm := (name_of_methodNamed Bd.named Bd.method).1
  have X0 : Stand p l e ({ frames := 3, cells := 1, slots := 10, locals := 41 } : Room) s m #[(.ref a1), (.ref ae), (.ref de), (.int (0 : Int32))] below meth c s₁ [] 0 0 := Stand.of_body Bd
  have e0 : s₁.heap = h0 := by rw [← hh, Bd.state]; rfl
  have N0 := Fr.nil n0
  refine own_fin (st' := s₁.setTop (mkF m 0 #[oR a1, oR ae, oR de, oi 0] [])) (fun _ k => castTop (ef_rad_0 m a1 ae de (0 : Int32)) k) (fun P hP => ?_)
  have lt_a1 : @LT.lt Nat _ a1 h0.size := pr1.lt
  have lt_de : @LT.lt Nat _ de h0.size := pr6.lt
  have lt_ae : @LT.lt Nat _ ae h0.size := pr9.lt
  refine ow (oT s₁ m 1 #[oR a1, oR ae, oR de, oi 0] [(.int (0 : Int32))]) (fun _ k => XS.iloadN X0.here hx rfl (hb hby d30_0) rfl k) ?_
  refine ow (oT s₁ m 2 #[oR a1, oR ae, oR de, oi 0] [(.ref de), (.int (0 : Int32))]) (fun _ k => XS.aloadN X0.here hx rfl (hb hby d30_1) rfl rfl k) ?_
  obtain ⟨cl1, Ar1, -, S1, M1, -, -⟩ := id pr6
  refine ow (oT s₁ m 3 #[oR a1, oR ae, oR de, oi 0] [(.int (0 : Int32)), (.int (0 : Int32))]) (fun t k => X0.arraylength hx (by rw [e0]; exact Ar1.1) (State.isArrayOf_alike hZ.alike Ar1.2.1) (g := (mkF m 2 #[oR a1, oR ae, oR de, oi 0] [(.ref de), (.int (0 : Int32))])) rfl rfl (hb hby d30_2) t (by rw [len_of S1 M1]; exact k)) ?_
  have hc2 : (0 : Int32) = (0 : Int32) := by decide
  refine ow (oT s₁ m 6 #[oR a1, oR ae, oR de, oi 0] []) (fun _ k => XS.icmpNo X0.here hx rfl (hb hby d30_3) rfl (teq hc2).2 k) ?_
  refine ow (oT s₁ m 7 #[oR a1, oR ae, oR de, oi 0] [(.ref a1)]) (fun _ k => XS.aloadN X0.here hx rfl (hb hby d30_6) rfl rfl k) ?_
  obtain ⟨cq3, qc3, qc3'⟩ := (pr1).cell
  obtain ⟨_, _, ⟨T3, LC3, kC3, nC3⟩, -, X3, ⟨Lc3, hQ3, lq3, yq3, zq3⟩, st3⟩ := X0.privateBack hx (y := oM34) hown (mvT hZ (own_hw hw 182)) (mvT hZ (own_hw hw 183)) (mvT hZ (own_hw hw 185)) (Cond.privateMethod_at (mvP hZ (own_hw hw 184) (args := #[]))) (mvT hZ (own_hw hw 186)) (by decide) (backOf (W := 0) (rm31 l Z a0 hw [] a1 mc de kde h0 n0 (by omega) pr1 pr2 pr3 pr4 pr5 pr6 (by omega) (own_ne (by omega))) hZ (own_hw hw 186) (own_hw hw 46) (by decide) (by decide)) (g := (mkF m 7 #[oR a1, oR ae, oR de, oi 0] [(.ref a1)])) rfl hml.symm (Steps.refl _) (a := a1) (by rw [e0]; exact qc3) qc3' (argsL := []) (rest := []) (lenOf pd_11 rfl) rfl (Nat.le_of_eq rfl) (hb hby d30_7) (fun _ _ => ⟨rfl, e0, (by decide : 0 + 1 ≤ _), (by decide : 0 + 10 ≤ _)⟩)
  dsimp only [Pt.U, Pt.locs, Pt.cells, Pt.slots] at X3 lq3 yq3 zq3 st3 hQ3
  subst lq3 yq3 zq3
  obtain ⟨h3, e3⟩ : ∃ z, T3.heap = z := ⟨_, rfl⟩
  rw [e3] at hQ3
  obtain ⟨ea_3, ke_3, rfl, Nq3, K3, g3_0, g3_1, g3_2, g3_3, g3_4, g3_5, g3_6⟩ := hQ3
  have sz3 : h0.size ≤ h3.size := K3.1
  have N3 := Fr.app N0 Nq3
  have lt3_1 : @LT.lt Nat _ a1 h3.size := g3_0.lt
  have lt3_2 : @LT.lt Nat _ ea_3 h3.size := g3_4.lt
  refine ow (oT T3 m 10 #[oR a1, oR ae, oR de, oi 0] [(.ref ea_3)]) (fun _ k => st3.trans k) ?_
  refine ow (oT T3 m 11 #[oR a1, oR ae, oR ea_3, oi 0] []) (fun _ k => XS.astoreN X3.here hx rfl (hb hby d30_10) rfl rfl (l' := #[oR a1, oR ae, oR ea_3, oi 0]) rfl k) ?_
  refine ow (oT T3 m 12 #[oR a1, oR ae, oR ea_3, oi 0] [(.ref ea_3)]) (fun _ k => XS.aloadN X3.here hx rfl (hb hby d30_11) rfl rfl k) ?_
  refine ow (oT T3 m 13 #[oR a1, oR ae, oR ea_3, oi 0] [(.int (0 : Int32)), (.ref ea_3)]) (fun _ k => XS.iloadN X3.here hx rfl (hb hby d30_12) rfl k) ?_
  refine ow (oT T3 m 14 #[oR a1, oR ae, oR ea_3, oi 0] [(.ref ae), (.int (0 : Int32)), (.ref ea_3)]) (fun _ k => XS.aloadN X3.here hx rfl (hb hby d30_13) rfl rfl k) ?_
  obtain ⟨cl4, Ar4, qc4, S4, M4, H4, G4⟩ := id g3_4
  have hin4 : ¬ ((0 : Int32) < 0 ∨ cl4.slots.size ≤ ((0 : Int32)).toNatClampNeg) := (inb_of S4 ⟨by decide, by decide⟩)
  have c5 : Exa Z h3 ae oS0 := (pr9.keep K3)
  obtain ⟨T4, h4, X4, e4, W4, st4⟩ := stR X3 hx hZ e3 Ar4 (j := (0 : Int32)) hin4 rfl (Sto.ofV Ar4 qc4 g3_5 (Ins.of_exa c5 (own_hw hw 198))) (g := (mkF m 14 #[oR a1, oR ae, oR ea_3, oi 0] [(.ref ae), (.int (0 : Int32)), (.ref ea_3)])) rfl rfl (hb hby d30_14)
  have sz4 : h4.size = h3.size := W4.size
  have N4 := Fr.snoc X4 N3 (by omega)
  have v4 : Arv Z h4 ea_3 ke_3 (.object oS2) (10 : Int32) [(.ref ae), .null, .null, .null, .null, .null, .null, .null, .null, .null] .null := Arv.set Ar4 qc4 S4 M4 H4 G4 rfl W4 0 rfl (Nat.le_of_ble_eq_true rfl)
  refine ow (oT T4 m 15 #[oR a1, oR ae, oR ea_3, oi 0] []) (st4) ?_
  refine ow (oT T4 m 16 #[oR a1, oR ae, oR ea_3, oi 0] [(.ref a1)]) (fun _ k => XS.aloadN X4.here hx rfl (hb hby d30_15) rfl rfl k) ?_
  refine ow (oT T4 m 17 #[oR a1, oR ae, oR ea_3, oi 0] [(.int (0 : Int32)), (.ref a1)]) (fun _ k => XS.iloadN X4.here hx rfl (hb hby d30_16) rfl k) ?_
  refine ow (oT T4 m 18 #[oR a1, oR ae, oR ea_3, oi 0] [(.int (1 : Int32)), (.int (0 : Int32)), (.ref a1)]) (fun _ k => XS.iconst X4.here hx rfl (hb hby d30_17) k) ?_
  refine ow (oT T4 m 19 #[oR a1, oR ae, oR ea_3, oi 0] [(.int (1 : Int32)), (.ref a1)]) (fun _ k => XS.iadd X4.here hx rfl (hb hby d30_18) rfl (by rw [show ((0 : Int32) + (1 : Int32)) = (1 : Int32) by decide]; exact k)) ?_
  have c6 : Fld Z h4 a1 oS1 "size" "I" (.int (0 : Int32)) := (g3_3.other W4 (Or.inl (own_ne (by omega))))
  have c7 : Exa Z h4 a1 oS1 := (g3_0.wr W4)
  obtain ⟨T8, h8, X8, e8, W8, st8⟩ := putF X4 hx hZ hown (host := "") (Or.inl (own_hw hw 165)) Via.refl e4 c6 c7 (Or.inl (own_hw hw 166)) (own_hw hw 45) (ty := .int) (by decide) rfl rfl (g := (mkF m 19 #[oR a1, oR ae, oR ea_3, oi 0] [(.int (1 : Int32)), (.ref a1)])) rfl rfl (hb hby d30_19)
  have sz8 : h8.size = h4.size := W8.size
  have N8 := Fr.snoc X8 N4 (by omega)
  have f8 : Fld Z h8 a1 oS1 "size" "I" (.int (1 : Int32)) := c6.same W8
  refine ow (oT T8 m 22 #[oR a1, oR ae, oR ea_3, oi 0] []) (st8) ?_
  obtain ⟨fs, hr, hrun, hended, hW, hsame⟩ := X8.leave (v := none) (fun _ => rfl)
  refine ⟨_, _, ?_, hP _ _ hrun hended ⟨_, _, rfl, ?_, ⟨_, rfl⟩, hW, hsame.mono (by decide) (by decide)⟩⟩
  · exact X8.returnOut hx Bd.returns (hb hby d30_22) hr
  ·
   show Qrad_0 Z a1 mc ae de kde h0 n0 _ T8.heap _
   have c10 : Exa Z h8 a1 oS1 := (c7.wr W8)
   have c11 : Fld Z h8 a1 oS8 "modCount" "I" (.int mc) := ((g3_1.other W4 (Or.inl (own_ne (by omega)))).other W8 (Or.inr (slot_ne (Or.inl (own_hw hw 64)) (Or.inl (own_hw hw 166)) (by decide) (t := .int) (t' := .int) (by decide) (by decide))))
   have c12 : Fld Z h8 a1 oS1 "elementData" oS3 (.ref ea_3) := ((g3_2.other W4 (Or.inl (own_ne (by omega)))).other W8 (Or.inr (slot_ne (Or.inl (own_hw hw 67)) (Or.inl (own_hw hw 166)) (by decide) (t := (.array (.object oS2))) (t' := .int) (by decide) (by decide))))
   have c13 : Arv Z h8 ea_3 ke_3 (.object oS2) (10 : Int32) [(.ref ae), .null, .null, .null, .null, .null, .null, .null, .null, .null] .null := (v4.other W8 (own_ne (by omega)))
   rw [e8]
   exact ⟨ea_3, ke_3, rfl, N8, ((((Keep.refl h0 [a1]).trans K3 (allS (P := fun x => x ∈ [a1] ∨ h0.size ≤ x) (Or.inl (List.mem_of_getElem? (i := 0) rfl)) all0)).wr W4 (Or.inr (by omega))).wr W8 (Or.inl (List.mem_of_getElem? (i := 0) rfl))), c10, c11, c12, f8, c13, g3_5, (by omega)⟩
theorem pd_12 : parseMethodDescriptor "(Ljava/lang/Object;[Ljava/lang/Object;I)V" = some ⟨[(.object "java/lang/Object"), (.array (.object "java/lang/Object")), .int], none⟩ := by decide +kernel
theorem d29_0 : decode jdk_38_method_25_code 0 = .ok (.aload_n 0, 1) := by decide +kernel
theorem d29_1 : decode jdk_38_method_25_code 1 = .ok (.dup, 1) := by decide +kernel
theorem d29_2 : decode jdk_38_method_25_code 2 = .ok (.getfield 63, 3) := by decide +kernel
theorem d29_5 : decode jdk_38_method_25_code 5 = .ok (.iconst 1, 1) := by decide +kernel
theorem d29_6 : decode jdk_38_method_25_code 6 = .ok (.iadd, 1) := by decide +kernel
theorem d29_7 : decode jdk_38_method_25_code 7 = .ok (.putfield 63, 3) := by decide +kernel
theorem d29_10 : decode jdk_38_method_25_code 10 = .ok (.aload_n 0, 1) := by decide +kernel
theorem d29_11 : decode jdk_38_method_25_code 11 = .ok (.aload_n 1, 1) := by decide +kernel
theorem d29_12 : decode jdk_38_method_25_code 12 = .ok (.aload_n 0, 1) := by decide +kernel
theorem d29_13 : decode jdk_38_method_25_code 13 = .ok (.getfield 9, 3) := by decide +kernel
theorem d29_16 : decode jdk_38_method_25_code 16 = .ok (.aload_n 0, 1) := by decide +kernel
theorem d29_17 : decode jdk_38_method_25_code 17 = .ok (.getfield 48, 3) := by decide +kernel
theorem d29_20 : decode jdk_38_method_25_code 20 = .ok (.invokevirtual 131, 3) := by decide +kernel
theorem d29_23 : decode jdk_38_method_25_code 23 = .ok (.iconst 1, 1) := by decide +kernel
theorem d29_24 : decode jdk_38_method_25_code 24 = .ok (.ireturn, 1) := by decide +kernel
theorem pn_29 : plainName "java/util/ArrayList" = true := by first | (simp [plainName, overriddenIn]; done) | decide +kernel
theorem ef_rap_0 (m : MethodId) (x0 : Addr) (x1 : Addr) : entryFrame m #[(.ref x0), (.ref x1)] 2 = mkF m 0 #[.val (.ref x0), .val (.ref x1)] [] := by first | (simp [entryFrame, mkF, argsToLocals, Value.category]; done) | rfl
def Qrap_0 (Z : State) (a1 : Addr) (mc : Int32) (ae : Addr) (de : Addr) (kde : ClassId) (h0 : Heap) (n0 : Nat) (v : Option Value) (h : Heap) (L : List Loc) : Prop := ∃ (ea : Addr) (ke : ClassId), (v = some (.int (1 : Int32))) ∧ (Fr n0 L) ∧ (Keep h0 h [a1]) ∧ (Exa Z h a1 "java/util/ArrayList") ∧ (Fld Z h a1 "java/util/AbstractList" "modCount" "I" (.int (mc + (1 : Int32)))) ∧ (Fld Z h a1 "java/util/ArrayList" "elementData" "[Ljava/lang/Object;" (.ref ea)) ∧ (Fld Z h a1 "java/util/ArrayList" "size" "I" (.int (1 : Int32))) ∧ (Arv Z h ea ke (.object "java/lang/Object") (10 : Int32) [(.ref ae), .null, .null, .null, .null, .null, .null, .null, .null, .null] .null) ∧ (Ovr Z ke "java/lang/Object") ∧ (h0.size ≤ ea)
set_option maxRecDepth 65536 in
set_option maxHeartbeats 40000000 in
theorem rap_0 (l : Launch) (Z : State) (a0 : Array Value) (hw : ∀ d ∈ tables_1, d.before a0 Z = true) (ws : List Jvm.Cond) (a1 : Addr) (mc : Int32) (ae : Addr) (de : Addr) (kde : ClassId) (h0 : Heap) (n0 : Nat) (Z0 : n0 ≤ h0.size) (pr1 : Exa Z h0 a1 oS1) (pr2 : Fld Z h0 a1 oS8 "modCount" "I" (.int mc)) (pr3 : Fld Z h0 a1 oS1 "elementData" oS3 (.ref de)) (pr4 : Fld Z h0 a1 oS1 "size" "I" (.int (0 : Int32))) (pr5 : Sta Z h0 oS1 oS10 oS3 (.ref de)) (pr6 : Arv Z h0 de kde (.object oS2) (0 : Int32) [] .null) (pr7 : n0 ≤ a1) (pr8 : @Ne Nat a1 de) (pr9 : Exa Z h0 ae oS0) :
    MetFree l oM8 (head1 (Jvm.Cond.code oM8 jdk_38_method_25_code 2 (some .boolean) :: ws) ({ frames := 4, cells := 1, slots := 10, locals := 56 } : Room)) (fun a U => a = #[(.ref a1), (.ref ae)] ∧ Z.Warmed39 U.vm ∧ U.heap = h0) (fun _ _ _ _ _ => True) (fun _ U o U' => ∃ v L, o = .returned v ∧ Qrap_0 Z a1 mc ae de kde h0 n0 v U'.heap L ∧ FrameEnd U o U' L ({ frames := 4, cells := 1, slots := 10, locals := 56 } : Room).cells ({ frames := 4, cells := 1, slots := 10, locals := 56 } : Room).slots) := by
  refine MetFree.of_bodySF (plainFor_of_name pn_29) hisR ?_
  intro p e s m args below meth c s₁ Bd hml0 hP0 hK
  obtain ⟨rfl, hZ, hh⟩ := hP0
  have hx := Bd.exec
  have hby := Bd.bytes
  have hml : c.maxLocals = 2 := hml0
  have hown : s.vm.findClass oS1 = some m.cls := findClass_of_methodNamed Bd.named
  have hnm := (name_of_methodNamed Bd.named Bd.method).1
  have X0 : Stand p l e ({ frames := 4, cells := 1, slots := 10, locals := 56 } : Room) s m #[(.ref a1), (.ref ae)] below meth c s₁ [] 0 0 := Stand.of_body Bd
  have e0 : s₁.heap = h0 := by rw [← hh, Bd.state]; rfl
  have N0 := Fr.nil n0
  refine own_fin (st' := s₁.setTop (mkF m 0 #[oR a1, oR ae] [])) (fun _ k => castTop (ef_rap_0 m a1 ae) k) (fun P hP => ?_)
  have lt_a1 : @LT.lt Nat _ a1 h0.size := pr1.lt
  have lt_de : @LT.lt Nat _ de h0.size := pr6.lt
  have lt_ae : @LT.lt Nat _ ae h0.size := pr9.lt
  refine ow (oT s₁ m 1 #[oR a1, oR ae] [(.ref a1)]) (fun _ k => XS.aloadN X0.here hx rfl (hb hby d29_0) rfl rfl k) ?_
  refine ow (oT s₁ m 2 #[oR a1, oR ae] [(.ref a1), (.ref a1)]) (fun _ k => XS.dup X0.here hx rfl (hb hby d29_1) rfl rfl k) ?_
  obtain ⟨T1, X1, e1, st1⟩ := getF X0 hx hZ hown (host := "") (Or.inl (own_hw hw 175)) (Via.of (own_hw hw 176)) e0 pr2 (g := (mkF m 2 #[oR a1, oR ae] [(.ref a1), (.ref a1)])) rfl rfl (hb hby d29_2)
  refine ow (oT T1 m 5 #[oR a1, oR ae] [(.int mc), (.ref a1)]) (st1) ?_
  refine ow (oT T1 m 6 #[oR a1, oR ae] [(.int (1 : Int32)), (.int mc), (.ref a1)]) (fun _ k => XS.iconst X1.here hx rfl (hb hby d29_5) k) ?_
  refine ow (oT T1 m 7 #[oR a1, oR ae] [(.int (mc + (1 : Int32))), (.ref a1)]) (fun _ k => XS.iadd X1.here hx rfl (hb hby d29_6) rfl k) ?_
  obtain ⟨T2, h2, X2, e2, W2, st2⟩ := putF X1 hx hZ hown (host := "") (Or.inl (own_hw hw 175)) (Via.of (own_hw hw 176)) e1 pr2 pr1 (Or.inl (own_hw hw 64)) (own_hw hw 45) (ty := .int) (by decide) rfl rfl (g := (mkF m 7 #[oR a1, oR ae] [(.int (mc + (1 : Int32))), (.ref a1)])) rfl rfl (hb hby d29_7)
  have sz2 : h2.size = h0.size := W2.size
  have N2 := Fr.snoc X2 N0 (by omega)
  have f2 : Fld Z h2 a1 oS8 "modCount" "I" (.int (mc + (1 : Int32))) := pr2.same W2
  refine ow (oT T2 m 10 #[oR a1, oR ae] []) (st2) ?_
  refine ow (oT T2 m 11 #[oR a1, oR ae] [(.ref a1)]) (fun _ k => XS.aloadN X2.here hx rfl (hb hby d29_10) rfl rfl k) ?_
  refine ow (oT T2 m 12 #[oR a1, oR ae] [(.ref ae), (.ref a1)]) (fun _ k => XS.aloadN X2.here hx rfl (hb hby d29_11) rfl rfl k) ?_
  refine ow (oT T2 m 13 #[oR a1, oR ae] [(.ref a1), (.ref ae), (.ref a1)]) (fun _ k => XS.aloadN X2.here hx rfl (hb hby d29_12) rfl rfl k) ?_
  have c3 : Fld Z h2 a1 oS1 "elementData" oS3 (.ref de) := (pr3.other W2 (Or.inr (slot_ne (Or.inl (own_hw hw 67)) (Or.inl (own_hw hw 64)) (by decide) (t := (.array (.object oS2))) (t' := .int) (by decide) (by decide))))
  obtain ⟨T4, X4, e4, st4⟩ := getF X2 hx hZ hown (host := "") (Or.inl (own_hw hw 66)) Via.refl e2 c3 (g := (mkF m 13 #[oR a1, oR ae] [(.ref a1), (.ref ae), (.ref a1)])) rfl rfl (hb hby d29_13)
  refine ow (oT T4 m 16 #[oR a1, oR ae] [(.ref de), (.ref ae), (.ref a1)]) (st4) ?_
  refine ow (oT T4 m 17 #[oR a1, oR ae] [(.ref a1), (.ref de), (.ref ae), (.ref a1)]) (fun _ k => XS.aloadN X4.here hx rfl (hb hby d29_16) rfl rfl k) ?_
  have c5 : Fld Z h2 a1 oS1 "size" "I" (.int (0 : Int32)) := (pr4.other W2 (Or.inr (slot_ne (Or.inl (own_hw hw 166)) (Or.inl (own_hw hw 64)) (by decide) (t := .int) (t' := .int) (by decide) (by decide))))
  obtain ⟨T6, X6, e6, st6⟩ := getF X4 hx hZ hown (host := "") (Or.inl (own_hw hw 165)) Via.refl e4 c5 (g := (mkF m 17 #[oR a1, oR ae] [(.ref a1), (.ref de), (.ref ae), (.ref a1)])) rfl rfl (hb hby d29_17)
  refine ow (oT T6 m 20 #[oR a1, oR ae] [(.int (0 : Int32)), (.ref de), (.ref ae), (.ref a1)]) (st6) ?_
  have c8 : Exa Z h2 a1 oS1 := (pr1.wr W2)
  have c9 : Sta Z h2 oS1 oS10 oS3 (.ref de) := (pr5.wr W2)
  have c10 : Arv Z h2 de kde (.object oS2) (0 : Int32) [] .null := (pr6.other W2 (own_ne (by omega)))
  have c11 : Exa Z h2 ae oS0 := (pr9.wr W2)
  obtain ⟨cq7, qc7, qc7'⟩ := (c8).cell
  obtain ⟨_, _, ⟨T7, LC7, kC7, nC7⟩, -, X7, ⟨Lc7, hQ7, lq7, yq7, zq7⟩, st7⟩ := X6.privateBack hx (y := oM16) hown (mvT hZ (own_hw hw 177)) (mvT hZ (own_hw hw 178)) (mvT hZ (own_hw hw 180)) (Cond.privateMethod_at (mvP hZ (own_hw hw 179) (args := #[]))) (mvT hZ (own_hw hw 181)) (by decide) (backOf (W := 0) (rad_0 l Z a0 hw [] a1 (mc + (1 : Int32)) ae de kde h2 n0 (by omega) c8 f2 c3 c5 c9 c10 (by omega) (own_ne (by omega)) c11) hZ (own_hw hw 181) (own_hw hw 46) (by decide) (by decide)) (g := (mkF m 20 #[oR a1, oR ae] [(.int (0 : Int32)), (.ref de), (.ref ae), (.ref a1)])) rfl hml.symm (Steps.refl _) (a := a1) (by rw [e6]; exact qc7) qc7' (argsL := [(.ref ae), (.ref de), (.int (0 : Int32))]) (rest := []) (lenOf pd_12 rfl) rfl (Nat.le_of_eq rfl) (hb hby d29_20) (fun _ _ => ⟨rfl, e6, (by decide : 0 + 1 ≤ _), (by decide : 0 + 10 ≤ _)⟩)
  dsimp only [Pt.U, Pt.locs, Pt.cells, Pt.slots] at X7 lq7 yq7 zq7 st7 hQ7
  subst lq7 yq7 zq7
  obtain ⟨h7, e7⟩ : ∃ z, T7.heap = z := ⟨_, rfl⟩
  rw [e7] at hQ7
  obtain ⟨ea_7, ke_7, rfl, Nq7, K7, g7_0, g7_1, g7_2, g7_3, g7_4, g7_5, g7_6⟩ := hQ7
  have sz7 : h2.size ≤ h7.size := K7.1
  have N7 := Fr.app N2 Nq7
  have lt7_1 : @LT.lt Nat _ a1 h7.size := g7_0.lt
  have lt7_2 : @LT.lt Nat _ ea_7 h7.size := g7_4.lt
  refine ow (oT T7 m 23 #[oR a1, oR ae] []) (fun _ k => st7.trans k) ?_
  refine ow (oT T7 m 24 #[oR a1, oR ae] [(.int (1 : Int32))]) (fun _ k => XS.iconst X7.here hx rfl (hb hby d29_23) k) ?_
  obtain ⟨fs, hr, hrun, hended, hW, hsame⟩ := X7.leave (v := some (.int (1 : Int32))) (fun h => by rw [Bd.returns] at h; cases h)
  refine ⟨_, _, ?_, hP _ _ hrun hended ⟨_, _, rfl, ?_, ⟨_, rfl⟩, hW, hsame.mono (by decide) (by decide)⟩⟩
  · exact retN X7 hx (t := .boolean) Bd.returns (by simp) (hb hby d29_24) hr
  ·
   show Qrap_0 Z a1 mc ae de kde h0 n0 _ T7.heap _
   rw [e7]
   exact ⟨ea_7, ke_7, rfl, N7, (((Keep.refl h0 [a1]).wr W2 (Or.inl (List.mem_of_getElem? (i := 0) rfl))).trans K7 (allS (P := fun x => x ∈ [a1] ∨ h0.size ≤ x) (Or.inl (List.mem_of_getElem? (i := 0) rfl)) all0)), g7_0, g7_1, g7_2, g7_3, g7_4, g7_5, (by omega)⟩
theorem ef_rad_1 (m : MethodId) (x0 : Addr) (x1 : Addr) (x2 : Addr) (x3 : Int32) : entryFrame m #[(.ref x0), (.ref x1), (.ref x2), (.int x3)] 4 = mkF m 0 #[.val (.ref x0), .val (.ref x1), .val (.ref x2), .val (.int x3)] [] := by first | (simp [entryFrame, mkF, argsToLocals, Value.category]; done) | rfl
def Qrad_1 (Z : State) (a1 : Addr) (mc : Int32) (ae : Addr) (ea : Addr) (ke : ClassId) (q0_ : Value) (h0 : Heap) (n0 : Nat) (v : Option Value) (h : Heap) (L : List Loc) : Prop := (v = none) ∧ (Fr n0 L) ∧ (Keep h0 h [a1, ea]) ∧ (Exa Z h a1 "java/util/ArrayList") ∧ (Fld Z h a1 "java/util/AbstractList" "modCount" "I" (.int mc)) ∧ (Fld Z h a1 "java/util/ArrayList" "elementData" "[Ljava/lang/Object;" (.ref ea)) ∧ (Fld Z h a1 "java/util/ArrayList" "size" "I" (.int (2 : Int32))) ∧ (Arv Z h ea ke (.object "java/lang/Object") (10 : Int32) [q0_, (.ref ae), .null, .null, .null, .null, .null, .null, .null, .null] .null) ∧ (Ovr Z ke "java/lang/Object")
set_option maxRecDepth 65536 in
set_option maxHeartbeats 40000000 in
theorem rad_1 (l : Launch) (Z : State) (a0 : Array Value) (hw : ∀ d ∈ tables_1, d.before a0 Z = true) (ws : List Jvm.Cond) (a1 : Addr) (mc : Int32) (ae : Addr) (ea : Addr) (ke : ClassId) (q0_ : Value) (h0 : Heap) (n0 : Nat) (Z0 : n0 ≤ h0.size) (pr1 : Exa Z h0 a1 oS1) (pr2 : Fld Z h0 a1 oS8 "modCount" "I" (.int mc)) (pr3 : Fld Z h0 a1 oS1 "elementData" oS3 (.ref ea)) (pr4 : Fld Z h0 a1 oS1 "size" "I" (.int (1 : Int32))) (pr5 : Arv Z h0 ea ke (.object oS2) (10 : Int32) [q0_, .null, .null, .null, .null, .null, .null, .null, .null, .null] .null) (pr6 : Ovr Z ke oS2) (pr7 : n0 ≤ a1) (pr8 : n0 ≤ ea) (pr9 : @Ne Nat a1 ea) (pr10 : Exa Z h0 ae oS0) :
    MetFree l oM16 (head1 (Jvm.Cond.code oM16 jdk_38_method_24_code 4 none :: ws) ({ frames := 0, cells := 0, slots := 0, locals := 0 } : Room)) (fun a U => a = #[(.ref a1), (.ref ae), (.ref ea), (.int (1 : Int32))] ∧ Z.Warmed39 U.vm ∧ U.heap = h0) (fun _ _ _ _ _ => True) (fun _ U o U' => ∃ v L, o = .returned v ∧ Qrad_1 Z a1 mc ae ea ke q0_ h0 n0 v U'.heap L ∧ FrameEnd U o U' L ({ frames := 0, cells := 0, slots := 0, locals := 0 } : Room).cells ({ frames := 0, cells := 0, slots := 0, locals := 0 } : Room).slots) := by
  refine MetFree.of_bodySF (plainFor_of_name pn_30) hisR ?_
  intro p e s m args below meth c s₁ Bd hml0 hP0 hK
  obtain ⟨rfl, hZ, hh⟩ := hP0
  have hx := Bd.exec
  have hby := Bd.bytes
  have hml : c.maxLocals = 4 := hml0
  have hown : s.vm.findClass oS1 = some m.cls := findClass_of_methodNamed Bd.named
  have hnm := (name_of_methodNamed Bd.named Bd.method).1
  have X0 : Stand p l e ({ frames := 0, cells := 0, slots := 0, locals := 0 } : Room) s m #[(.ref a1), (.ref ae), (.ref ea), (.int (1 : Int32))] below meth c s₁ [] 0 0 := Stand.of_body Bd
  have e0 : s₁.heap = h0 := by rw [← hh, Bd.state]; rfl
  have N0 := Fr.nil n0
  refine own_fin (st' := s₁.setTop (mkF m 0 #[oR a1, oR ae, oR ea, oi 1] [])) (fun _ k => castTop (ef_rad_1 m a1 ae ea (1 : Int32)) k) (fun P hP => ?_)
  have lt_a1 : @LT.lt Nat _ a1 h0.size := pr1.lt
  have lt_ea : @LT.lt Nat _ ea h0.size := pr5.lt
  have lt_ae : @LT.lt Nat _ ae h0.size := pr10.lt
  refine ow (oT s₁ m 1 #[oR a1, oR ae, oR ea, oi 1] [(.int (1 : Int32))]) (fun _ k => XS.iloadN X0.here hx rfl (hb hby d30_0) rfl k) ?_
  refine ow (oT s₁ m 2 #[oR a1, oR ae, oR ea, oi 1] [(.ref ea), (.int (1 : Int32))]) (fun _ k => XS.aloadN X0.here hx rfl (hb hby d30_1) rfl rfl k) ?_
  obtain ⟨cl1, Ar1, -, S1, M1, -, -⟩ := id pr5
  refine ow (oT s₁ m 3 #[oR a1, oR ae, oR ea, oi 1] [(.int (10 : Int32)), (.int (1 : Int32))]) (fun t k => X0.arraylength hx (by rw [e0]; exact Ar1.1) (State.isArrayOf_alike hZ.alike Ar1.2.1) (g := (mkF m 2 #[oR a1, oR ae, oR ea, oi 1] [(.ref ea), (.int (1 : Int32))])) rfl rfl (hb hby d30_2) t (by rw [len_of S1 M1]; exact k)) ?_
  have hc2 : ¬ ((1 : Int32) = (10 : Int32)) := by decide
  refine ow (oT s₁ m 11 #[oR a1, oR ae, oR ea, oi 1] []) (fun _ k => XS.icmpYes X0.here hx rfl (pc0 := 3) (pc' := 11) rfl (hb hby d30_3) rfl (feq hc2).2 (by decide) (by decide) k) ?_
  refine ow (oT s₁ m 12 #[oR a1, oR ae, oR ea, oi 1] [(.ref ea)]) (fun _ k => XS.aloadN X0.here hx rfl (hb hby d30_11) rfl rfl k) ?_
  refine ow (oT s₁ m 13 #[oR a1, oR ae, oR ea, oi 1] [(.int (1 : Int32)), (.ref ea)]) (fun _ k => XS.iloadN X0.here hx rfl (hb hby d30_12) rfl k) ?_
  refine ow (oT s₁ m 14 #[oR a1, oR ae, oR ea, oi 1] [(.ref ae), (.int (1 : Int32)), (.ref ea)]) (fun _ k => XS.aloadN X0.here hx rfl (hb hby d30_13) rfl rfl k) ?_
  obtain ⟨cl3, Ar3, qc3, S3, M3, H3, G3⟩ := id pr5
  have hin3 : ¬ ((1 : Int32) < 0 ∨ cl3.slots.size ≤ ((1 : Int32)).toNatClampNeg) := (inb_of S3 ⟨by decide, by decide⟩)
  obtain ⟨T3, h3, X3, e3, W3, st3⟩ := stR X0 hx hZ e0 Ar3 (j := (1 : Int32)) hin3 rfl (Sto.ofV Ar3 qc3 pr6 (Ins.of_exa pr10 (own_hw hw 198))) (g := (mkF m 14 #[oR a1, oR ae, oR ea, oi 1] [(.ref ae), (.int (1 : Int32)), (.ref ea)])) rfl rfl (hb hby d30_14)
  have sz3 : h3.size = h0.size := W3.size
  have N3 := Fr.snoc X3 N0 (by omega)
  have v3 : Arv Z h3 ea ke (.object oS2) (10 : Int32) [q0_, (.ref ae), .null, .null, .null, .null, .null, .null, .null, .null] .null := Arv.set Ar3 qc3 S3 M3 H3 G3 rfl W3 1 rfl (Nat.le_of_ble_eq_true rfl)
  refine ow (oT T3 m 15 #[oR a1, oR ae, oR ea, oi 1] []) (st3) ?_
  refine ow (oT T3 m 16 #[oR a1, oR ae, oR ea, oi 1] [(.ref a1)]) (fun _ k => XS.aloadN X3.here hx rfl (hb hby d30_15) rfl rfl k) ?_
  refine ow (oT T3 m 17 #[oR a1, oR ae, oR ea, oi 1] [(.int (1 : Int32)), (.ref a1)]) (fun _ k => XS.iloadN X3.here hx rfl (hb hby d30_16) rfl k) ?_
  refine ow (oT T3 m 18 #[oR a1, oR ae, oR ea, oi 1] [(.int (1 : Int32)), (.int (1 : Int32)), (.ref a1)]) (fun _ k => XS.iconst X3.here hx rfl (hb hby d30_17) k) ?_
  refine ow (oT T3 m 19 #[oR a1, oR ae, oR ea, oi 1] [(.int (2 : Int32)), (.ref a1)]) (fun _ k => XS.iadd X3.here hx rfl (hb hby d30_18) rfl (by rw [show ((1 : Int32) + (1 : Int32)) = (2 : Int32) by decide]; exact k)) ?_
  have c4 : Fld Z h3 a1 oS1 "size" "I" (.int (1 : Int32)) := (pr4.other W3 (Or.inl (own_ne (by omega))))
  have c5 : Exa Z h3 a1 oS1 := (pr1.wr W3)
  obtain ⟨T6, h6, X6, e6, W6, st6⟩ := putF X3 hx hZ hown (host := "") (Or.inl (own_hw hw 165)) Via.refl e3 c4 c5 (Or.inl (own_hw hw 166)) (own_hw hw 45) (ty := .int) (by decide) rfl rfl (g := (mkF m 19 #[oR a1, oR ae, oR ea, oi 1] [(.int (2 : Int32)), (.ref a1)])) rfl rfl (hb hby d30_19)
  have sz6 : h6.size = h3.size := W6.size
  have N6 := Fr.snoc X6 N3 (by omega)
  have f6 : Fld Z h6 a1 oS1 "size" "I" (.int (2 : Int32)) := c4.same W6
  refine ow (oT T6 m 22 #[oR a1, oR ae, oR ea, oi 1] []) (st6) ?_
  obtain ⟨fs, hr, hrun, hended, hW, hsame⟩ := X6.leave (v := none) (fun _ => rfl)
  refine ⟨_, _, ?_, hP _ _ hrun hended ⟨_, _, rfl, ?_, ⟨_, rfl⟩, hW, hsame.mono (by decide) (by decide)⟩⟩
  · exact X6.returnOut hx Bd.returns (hb hby d30_22) hr
  ·
   show Qrad_1 Z a1 mc ae ea ke q0_ h0 n0 _ T6.heap _
   have c8 : Exa Z h6 a1 oS1 := (c5.wr W6)
   have c9 : Fld Z h6 a1 oS8 "modCount" "I" (.int mc) := ((pr2.other W3 (Or.inl (own_ne (by omega)))).other W6 (Or.inr (slot_ne (Or.inl (own_hw hw 64)) (Or.inl (own_hw hw 166)) (by decide) (t := .int) (t' := .int) (by decide) (by decide))))
   have c10 : Fld Z h6 a1 oS1 "elementData" oS3 (.ref ea) := ((pr3.other W3 (Or.inl (own_ne (by omega)))).other W6 (Or.inr (slot_ne (Or.inl (own_hw hw 67)) (Or.inl (own_hw hw 166)) (by decide) (t := (.array (.object oS2))) (t' := .int) (by decide) (by decide))))
   have c11 : Arv Z h6 ea ke (.object oS2) (10 : Int32) [q0_, (.ref ae), .null, .null, .null, .null, .null, .null, .null, .null] .null := (v3.other W6 (own_ne (by omega)))
   rw [e6]
   exact ⟨rfl, N6, (((Keep.refl h0 [a1, ea]).wr W3 (Or.inl (List.mem_of_getElem? (i := 1) rfl))).wr W6 (Or.inl (List.mem_of_getElem? (i := 0) rfl))), c8, c9, c10, f6, c11, pr6⟩
theorem ef_rap_1 (m : MethodId) (x0 : Addr) (x1 : Addr) : entryFrame m #[(.ref x0), (.ref x1)] 2 = mkF m 0 #[.val (.ref x0), .val (.ref x1)] [] := by first | (simp [entryFrame, mkF, argsToLocals, Value.category]; done) | rfl
def Qrap_1 (Z : State) (a1 : Addr) (mc : Int32) (ae : Addr) (ea : Addr) (ke : ClassId) (q0_ : Value) (h0 : Heap) (n0 : Nat) (v : Option Value) (h : Heap) (L : List Loc) : Prop := (v = some (.int (1 : Int32))) ∧ (Fr n0 L) ∧ (Keep h0 h [a1, ea]) ∧ (Exa Z h a1 "java/util/ArrayList") ∧ (Fld Z h a1 "java/util/AbstractList" "modCount" "I" (.int (mc + (1 : Int32)))) ∧ (Fld Z h a1 "java/util/ArrayList" "elementData" "[Ljava/lang/Object;" (.ref ea)) ∧ (Fld Z h a1 "java/util/ArrayList" "size" "I" (.int (2 : Int32))) ∧ (Arv Z h ea ke (.object "java/lang/Object") (10 : Int32) [q0_, (.ref ae), .null, .null, .null, .null, .null, .null, .null, .null] .null) ∧ (Ovr Z ke "java/lang/Object")
set_option maxRecDepth 65536 in
set_option maxHeartbeats 40000000 in
theorem rap_1 (l : Launch) (Z : State) (a0 : Array Value) (hw : ∀ d ∈ tables_1, d.before a0 Z = true) (ws : List Jvm.Cond) (a1 : Addr) (mc : Int32) (ae : Addr) (ea : Addr) (ke : ClassId) (q0_ : Value) (h0 : Heap) (n0 : Nat) (Z0 : n0 ≤ h0.size) (pr1 : Exa Z h0 a1 oS1) (pr2 : Fld Z h0 a1 oS8 "modCount" "I" (.int mc)) (pr3 : Fld Z h0 a1 oS1 "elementData" oS3 (.ref ea)) (pr4 : Fld Z h0 a1 oS1 "size" "I" (.int (1 : Int32))) (pr5 : Arv Z h0 ea ke (.object oS2) (10 : Int32) [q0_, .null, .null, .null, .null, .null, .null, .null, .null, .null] .null) (pr6 : Ovr Z ke oS2) (pr7 : n0 ≤ a1) (pr8 : n0 ≤ ea) (pr9 : @Ne Nat a1 ea) (pr10 : Exa Z h0 ae oS0) :
    MetFree l oM8 (head1 (Jvm.Cond.code oM8 jdk_38_method_25_code 2 (some .boolean) :: ws) ({ frames := 1, cells := 0, slots := 0, locals := 15 } : Room)) (fun a U => a = #[(.ref a1), (.ref ae)] ∧ Z.Warmed39 U.vm ∧ U.heap = h0) (fun _ _ _ _ _ => True) (fun _ U o U' => ∃ v L, o = .returned v ∧ Qrap_1 Z a1 mc ae ea ke q0_ h0 n0 v U'.heap L ∧ FrameEnd U o U' L ({ frames := 1, cells := 0, slots := 0, locals := 15 } : Room).cells ({ frames := 1, cells := 0, slots := 0, locals := 15 } : Room).slots) := by
  refine MetFree.of_bodySF (plainFor_of_name pn_29) hisR ?_
  intro p e s m args below meth c s₁ Bd hml0 hP0 hK
  obtain ⟨rfl, hZ, hh⟩ := hP0
  have hx := Bd.exec
  have hby := Bd.bytes
  have hml : c.maxLocals = 2 := hml0
  have hown : s.vm.findClass oS1 = some m.cls := findClass_of_methodNamed Bd.named
  have hnm := (name_of_methodNamed Bd.named Bd.method).1
  have X0 : Stand p l e ({ frames := 1, cells := 0, slots := 0, locals := 15 } : Room) s m #[(.ref a1), (.ref ae)] below meth c s₁ [] 0 0 := Stand.of_body Bd
  have e0 : s₁.heap = h0 := by rw [← hh, Bd.state]; rfl
  have N0 := Fr.nil n0
  refine own_fin (st' := s₁.setTop (mkF m 0 #[oR a1, oR ae] [])) (fun _ k => castTop (ef_rap_1 m a1 ae) k) (fun P hP => ?_)
  have lt_a1 : @LT.lt Nat _ a1 h0.size := pr1.lt
  have lt_ea : @LT.lt Nat _ ea h0.size := pr5.lt
  have lt_ae : @LT.lt Nat _ ae h0.size := pr10.lt
  refine ow (oT s₁ m 1 #[oR a1, oR ae] [(.ref a1)]) (fun _ k => XS.aloadN X0.here hx rfl (hb hby d29_0) rfl rfl k) ?_
  refine ow (oT s₁ m 2 #[oR a1, oR ae] [(.ref a1), (.ref a1)]) (fun _ k => XS.dup X0.here hx rfl (hb hby d29_1) rfl rfl k) ?_
  obtain ⟨T1, X1, e1, st1⟩ := getF X0 hx hZ hown (host := "") (Or.inl (own_hw hw 175)) (Via.of (own_hw hw 176)) e0 pr2 (g := (mkF m 2 #[oR a1, oR ae] [(.ref a1), (.ref a1)])) rfl rfl (hb hby d29_2)
  refine ow (oT T1 m 5 #[oR a1, oR ae] [(.int mc), (.ref a1)]) (st1) ?_
  refine ow (oT T1 m 6 #[oR a1, oR ae] [(.int (1 : Int32)), (.int mc), (.ref a1)]) (fun _ k => XS.iconst X1.here hx rfl (hb hby d29_5) k) ?_
  refine ow (oT T1 m 7 #[oR a1, oR ae] [(.int (mc + (1 : Int32))), (.ref a1)]) (fun _ k => XS.iadd X1.here hx rfl (hb hby d29_6) rfl k) ?_
  obtain ⟨T2, h2, X2, e2, W2, st2⟩ := putF X1 hx hZ hown (host := "") (Or.inl (own_hw hw 175)) (Via.of (own_hw hw 176)) e1 pr2 pr1 (Or.inl (own_hw hw 64)) (own_hw hw 45) (ty := .int) (by decide) rfl rfl (g := (mkF m 7 #[oR a1, oR ae] [(.int (mc + (1 : Int32))), (.ref a1)])) rfl rfl (hb hby d29_7)
  have sz2 : h2.size = h0.size := W2.size
  have N2 := Fr.snoc X2 N0 (by omega)
  have f2 : Fld Z h2 a1 oS8 "modCount" "I" (.int (mc + (1 : Int32))) := pr2.same W2
  refine ow (oT T2 m 10 #[oR a1, oR ae] []) (st2) ?_
  refine ow (oT T2 m 11 #[oR a1, oR ae] [(.ref a1)]) (fun _ k => XS.aloadN X2.here hx rfl (hb hby d29_10) rfl rfl k) ?_
  refine ow (oT T2 m 12 #[oR a1, oR ae] [(.ref ae), (.ref a1)]) (fun _ k => XS.aloadN X2.here hx rfl (hb hby d29_11) rfl rfl k) ?_
  refine ow (oT T2 m 13 #[oR a1, oR ae] [(.ref a1), (.ref ae), (.ref a1)]) (fun _ k => XS.aloadN X2.here hx rfl (hb hby d29_12) rfl rfl k) ?_
  have c3 : Fld Z h2 a1 oS1 "elementData" oS3 (.ref ea) := (pr3.other W2 (Or.inr (slot_ne (Or.inl (own_hw hw 67)) (Or.inl (own_hw hw 64)) (by decide) (t := (.array (.object oS2))) (t' := .int) (by decide) (by decide))))
  obtain ⟨T4, X4, e4, st4⟩ := getF X2 hx hZ hown (host := "") (Or.inl (own_hw hw 66)) Via.refl e2 c3 (g := (mkF m 13 #[oR a1, oR ae] [(.ref a1), (.ref ae), (.ref a1)])) rfl rfl (hb hby d29_13)
  refine ow (oT T4 m 16 #[oR a1, oR ae] [(.ref ea), (.ref ae), (.ref a1)]) (st4) ?_
  refine ow (oT T4 m 17 #[oR a1, oR ae] [(.ref a1), (.ref ea), (.ref ae), (.ref a1)]) (fun _ k => XS.aloadN X4.here hx rfl (hb hby d29_16) rfl rfl k) ?_
  have c5 : Fld Z h2 a1 oS1 "size" "I" (.int (1 : Int32)) := (pr4.other W2 (Or.inr (slot_ne (Or.inl (own_hw hw 166)) (Or.inl (own_hw hw 64)) (by decide) (t := .int) (t' := .int) (by decide) (by decide))))
  obtain ⟨T6, X6, e6, st6⟩ := getF X4 hx hZ hown (host := "") (Or.inl (own_hw hw 165)) Via.refl e4 c5 (g := (mkF m 17 #[oR a1, oR ae] [(.ref a1), (.ref ea), (.ref ae), (.ref a1)])) rfl rfl (hb hby d29_17)
  refine ow (oT T6 m 20 #[oR a1, oR ae] [(.int (1 : Int32)), (.ref ea), (.ref ae), (.ref a1)]) (st6) ?_
  have c8 : Exa Z h2 a1 oS1 := (pr1.wr W2)
  have c9 : Arv Z h2 ea ke (.object oS2) (10 : Int32) [q0_, .null, .null, .null, .null, .null, .null, .null, .null, .null] .null := (pr5.other W2 (own_ne (by omega)))
  have c10 : Exa Z h2 ae oS0 := (pr10.wr W2)
  obtain ⟨cq7, qc7, qc7'⟩ := (c8).cell
  obtain ⟨_, _, ⟨T7, LC7, kC7, nC7⟩, -, X7, ⟨Lc7, hQ7, lq7, yq7, zq7⟩, st7⟩ := X6.privateBack hx (y := oM16) hown (mvT hZ (own_hw hw 177)) (mvT hZ (own_hw hw 178)) (mvT hZ (own_hw hw 180)) (Cond.privateMethod_at (mvP hZ (own_hw hw 179) (args := #[]))) (mvT hZ (own_hw hw 181)) (by decide) (backOf (W := 0) (rad_1 l Z a0 hw [] a1 (mc + (1 : Int32)) ae ea ke q0_ h2 n0 (by omega) c8 f2 c3 c5 c9 pr6 (by omega) (by omega) (own_ne (by omega)) c10) hZ (own_hw hw 181) (own_hw hw 46) (by decide) (by decide)) (g := (mkF m 20 #[oR a1, oR ae] [(.int (1 : Int32)), (.ref ea), (.ref ae), (.ref a1)])) rfl hml.symm (Steps.refl _) (a := a1) (by rw [e6]; exact qc7) qc7' (argsL := [(.ref ae), (.ref ea), (.int (1 : Int32))]) (rest := []) (lenOf pd_12 rfl) rfl (Nat.le_of_eq rfl) (hb hby d29_20) (fun _ _ => ⟨rfl, e6, (by decide : 0 + 0 ≤ _), (by decide : 0 + 0 ≤ _)⟩)
  dsimp only [Pt.U, Pt.locs, Pt.cells, Pt.slots] at X7 lq7 yq7 zq7 st7 hQ7
  subst lq7 yq7 zq7
  obtain ⟨h7, e7⟩ : ∃ z, T7.heap = z := ⟨_, rfl⟩
  rw [e7] at hQ7
  obtain ⟨rfl, Nq7, K7, g7_0, g7_1, g7_2, g7_3, g7_4, g7_5⟩ := hQ7
  have sz7 : h2.size ≤ h7.size := K7.1
  have N7 := Fr.app N2 Nq7
  have lt7_1 : @LT.lt Nat _ a1 h7.size := g7_0.lt
  have lt7_2 : @LT.lt Nat _ ea h7.size := g7_4.lt
  refine ow (oT T7 m 23 #[oR a1, oR ae] []) (fun _ k => st7.trans k) ?_
  refine ow (oT T7 m 24 #[oR a1, oR ae] [(.int (1 : Int32))]) (fun _ k => XS.iconst X7.here hx rfl (hb hby d29_23) k) ?_
  obtain ⟨fs, hr, hrun, hended, hW, hsame⟩ := X7.leave (v := some (.int (1 : Int32))) (fun h => by rw [Bd.returns] at h; cases h)
  refine ⟨_, _, ?_, hP _ _ hrun hended ⟨_, _, rfl, ?_, ⟨_, rfl⟩, hW, hsame.mono (by decide) (by decide)⟩⟩
  · exact retN X7 hx (t := .boolean) Bd.returns (by simp) (hb hby d29_24) hr
  ·
   show Qrap_1 Z a1 mc ae ea ke q0_ h0 n0 _ T7.heap _
   rw [e7]
   exact ⟨rfl, N7, (((Keep.refl h0 [a1, ea]).wr W2 (Or.inl (List.mem_of_getElem? (i := 0) rfl))).trans K7 (allS (P := fun x => x ∈ [a1, ea] ∨ h0.size ≤ x) (Or.inl (List.mem_of_getElem? (i := 0) rfl)) (allS (P := fun x => x ∈ [a1, ea] ∨ h0.size ≤ x) (Or.inl (List.mem_of_getElem? (i := 1) rfl)) all0))), g7_0, g7_1, g7_2, g7_3, g7_4, g7_5⟩
theorem ef_rad_2 (m : MethodId) (x0 : Addr) (x1 : Addr) (x2 : Addr) (x3 : Int32) : entryFrame m #[(.ref x0), (.ref x1), (.ref x2), (.int x3)] 4 = mkF m 0 #[.val (.ref x0), .val (.ref x1), .val (.ref x2), .val (.int x3)] [] := by first | (simp [entryFrame, mkF, argsToLocals, Value.category]; done) | rfl
def Qrad_2 (Z : State) (a1 : Addr) (mc : Int32) (ae : Addr) (ea : Addr) (ke : ClassId) (q0_ : Value) (q1_ : Value) (h0 : Heap) (n0 : Nat) (v : Option Value) (h : Heap) (L : List Loc) : Prop := (v = none) ∧ (Fr n0 L) ∧ (Keep h0 h [a1, ea]) ∧ (Exa Z h a1 "java/util/ArrayList") ∧ (Fld Z h a1 "java/util/AbstractList" "modCount" "I" (.int mc)) ∧ (Fld Z h a1 "java/util/ArrayList" "elementData" "[Ljava/lang/Object;" (.ref ea)) ∧ (Fld Z h a1 "java/util/ArrayList" "size" "I" (.int (3 : Int32))) ∧ (Arv Z h ea ke (.object "java/lang/Object") (10 : Int32) [q0_, q1_, (.ref ae), .null, .null, .null, .null, .null, .null, .null] .null) ∧ (Ovr Z ke "java/lang/Object")
set_option maxRecDepth 65536 in
set_option maxHeartbeats 40000000 in
theorem rad_2 (l : Launch) (Z : State) (a0 : Array Value) (hw : ∀ d ∈ tables_1, d.before a0 Z = true) (ws : List Jvm.Cond) (a1 : Addr) (mc : Int32) (ae : Addr) (ea : Addr) (ke : ClassId) (q0_ : Value) (q1_ : Value) (h0 : Heap) (n0 : Nat) (Z0 : n0 ≤ h0.size) (pr1 : Exa Z h0 a1 oS1) (pr2 : Fld Z h0 a1 oS8 "modCount" "I" (.int mc)) (pr3 : Fld Z h0 a1 oS1 "elementData" oS3 (.ref ea)) (pr4 : Fld Z h0 a1 oS1 "size" "I" (.int (2 : Int32))) (pr5 : Arv Z h0 ea ke (.object oS2) (10 : Int32) [q0_, q1_, .null, .null, .null, .null, .null, .null, .null, .null] .null) (pr6 : Ovr Z ke oS2) (pr7 : n0 ≤ a1) (pr8 : n0 ≤ ea) (pr9 : @Ne Nat a1 ea) (pr10 : Exa Z h0 ae oS0) :
    MetFree l oM16 (head1 (Jvm.Cond.code oM16 jdk_38_method_24_code 4 none :: ws) ({ frames := 0, cells := 0, slots := 0, locals := 0 } : Room)) (fun a U => a = #[(.ref a1), (.ref ae), (.ref ea), (.int (2 : Int32))] ∧ Z.Warmed39 U.vm ∧ U.heap = h0) (fun _ _ _ _ _ => True) (fun _ U o U' => ∃ v L, o = .returned v ∧ Qrad_2 Z a1 mc ae ea ke q0_ q1_ h0 n0 v U'.heap L ∧ FrameEnd U o U' L ({ frames := 0, cells := 0, slots := 0, locals := 0 } : Room).cells ({ frames := 0, cells := 0, slots := 0, locals := 0 } : Room).slots) := by
  refine MetFree.of_bodySF (plainFor_of_name pn_30) hisR ?_
  intro p e s m args below meth c s₁ Bd hml0 hP0 hK
  obtain ⟨rfl, hZ, hh⟩ := hP0
  have hx := Bd.exec
  have hby := Bd.bytes
  have hml : c.maxLocals = 4 := hml0
  have hown : s.vm.findClass oS1 = some m.cls := findClass_of_methodNamed Bd.named
  have hnm := (name_of_methodNamed Bd.named Bd.method).1
  have X0 : Stand p l e ({ frames := 0, cells := 0, slots := 0, locals := 0 } : Room) s m #[(.ref a1), (.ref ae), (.ref ea), (.int (2 : Int32))] below meth c s₁ [] 0 0 := Stand.of_body Bd
  have e0 : s₁.heap = h0 := by rw [← hh, Bd.state]; rfl
  have N0 := Fr.nil n0
  refine own_fin (st' := s₁.setTop (mkF m 0 #[oR a1, oR ae, oR ea, oi 2] [])) (fun _ k => castTop (ef_rad_2 m a1 ae ea (2 : Int32)) k) (fun P hP => ?_)
  have lt_a1 : @LT.lt Nat _ a1 h0.size := pr1.lt
  have lt_ea : @LT.lt Nat _ ea h0.size := pr5.lt
  have lt_ae : @LT.lt Nat _ ae h0.size := pr10.lt
  refine ow (oT s₁ m 1 #[oR a1, oR ae, oR ea, oi 2] [(.int (2 : Int32))]) (fun _ k => XS.iloadN X0.here hx rfl (hb hby d30_0) rfl k) ?_
  refine ow (oT s₁ m 2 #[oR a1, oR ae, oR ea, oi 2] [(.ref ea), (.int (2 : Int32))]) (fun _ k => XS.aloadN X0.here hx rfl (hb hby d30_1) rfl rfl k) ?_
  obtain ⟨cl1, Ar1, -, S1, M1, -, -⟩ := id pr5
  refine ow (oT s₁ m 3 #[oR a1, oR ae, oR ea, oi 2] [(.int (10 : Int32)), (.int (2 : Int32))]) (fun t k => X0.arraylength hx (by rw [e0]; exact Ar1.1) (State.isArrayOf_alike hZ.alike Ar1.2.1) (g := (mkF m 2 #[oR a1, oR ae, oR ea, oi 2] [(.ref ea), (.int (2 : Int32))])) rfl rfl (hb hby d30_2) t (by rw [len_of S1 M1]; exact k)) ?_
  have hc2 : ¬ ((2 : Int32) = (10 : Int32)) := by decide
  refine ow (oT s₁ m 11 #[oR a1, oR ae, oR ea, oi 2] []) (fun _ k => XS.icmpYes X0.here hx rfl (pc0 := 3) (pc' := 11) rfl (hb hby d30_3) rfl (feq hc2).2 (by decide) (by decide) k) ?_
  refine ow (oT s₁ m 12 #[oR a1, oR ae, oR ea, oi 2] [(.ref ea)]) (fun _ k => XS.aloadN X0.here hx rfl (hb hby d30_11) rfl rfl k) ?_
  refine ow (oT s₁ m 13 #[oR a1, oR ae, oR ea, oi 2] [(.int (2 : Int32)), (.ref ea)]) (fun _ k => XS.iloadN X0.here hx rfl (hb hby d30_12) rfl k) ?_
  refine ow (oT s₁ m 14 #[oR a1, oR ae, oR ea, oi 2] [(.ref ae), (.int (2 : Int32)), (.ref ea)]) (fun _ k => XS.aloadN X0.here hx rfl (hb hby d30_13) rfl rfl k) ?_
  obtain ⟨cl3, Ar3, qc3, S3, M3, H3, G3⟩ := id pr5
  have hin3 : ¬ ((2 : Int32) < 0 ∨ cl3.slots.size ≤ ((2 : Int32)).toNatClampNeg) := (inb_of S3 ⟨by decide, by decide⟩)
  obtain ⟨T3, h3, X3, e3, W3, st3⟩ := stR X0 hx hZ e0 Ar3 (j := (2 : Int32)) hin3 rfl (Sto.ofV Ar3 qc3 pr6 (Ins.of_exa pr10 (own_hw hw 198))) (g := (mkF m 14 #[oR a1, oR ae, oR ea, oi 2] [(.ref ae), (.int (2 : Int32)), (.ref ea)])) rfl rfl (hb hby d30_14)
  have sz3 : h3.size = h0.size := W3.size
  have N3 := Fr.snoc X3 N0 (by omega)
  have v3 : Arv Z h3 ea ke (.object oS2) (10 : Int32) [q0_, q1_, (.ref ae), .null, .null, .null, .null, .null, .null, .null] .null := Arv.set Ar3 qc3 S3 M3 H3 G3 rfl W3 2 rfl (Nat.le_of_ble_eq_true rfl)
  refine ow (oT T3 m 15 #[oR a1, oR ae, oR ea, oi 2] []) (st3) ?_
  refine ow (oT T3 m 16 #[oR a1, oR ae, oR ea, oi 2] [(.ref a1)]) (fun _ k => XS.aloadN X3.here hx rfl (hb hby d30_15) rfl rfl k) ?_
  refine ow (oT T3 m 17 #[oR a1, oR ae, oR ea, oi 2] [(.int (2 : Int32)), (.ref a1)]) (fun _ k => XS.iloadN X3.here hx rfl (hb hby d30_16) rfl k) ?_
  refine ow (oT T3 m 18 #[oR a1, oR ae, oR ea, oi 2] [(.int (1 : Int32)), (.int (2 : Int32)), (.ref a1)]) (fun _ k => XS.iconst X3.here hx rfl (hb hby d30_17) k) ?_
  refine ow (oT T3 m 19 #[oR a1, oR ae, oR ea, oi 2] [(.int (3 : Int32)), (.ref a1)]) (fun _ k => XS.iadd X3.here hx rfl (hb hby d30_18) rfl (by rw [show ((2 : Int32) + (1 : Int32)) = (3 : Int32) by decide]; exact k)) ?_
  have c4 : Fld Z h3 a1 oS1 "size" "I" (.int (2 : Int32)) := (pr4.other W3 (Or.inl (own_ne (by omega))))
  have c5 : Exa Z h3 a1 oS1 := (pr1.wr W3)
  obtain ⟨T6, h6, X6, e6, W6, st6⟩ := putF X3 hx hZ hown (host := "") (Or.inl (own_hw hw 165)) Via.refl e3 c4 c5 (Or.inl (own_hw hw 166)) (own_hw hw 45) (ty := .int) (by decide) rfl rfl (g := (mkF m 19 #[oR a1, oR ae, oR ea, oi 2] [(.int (3 : Int32)), (.ref a1)])) rfl rfl (hb hby d30_19)
  have sz6 : h6.size = h3.size := W6.size
  have N6 := Fr.snoc X6 N3 (by omega)
  have f6 : Fld Z h6 a1 oS1 "size" "I" (.int (3 : Int32)) := c4.same W6
  refine ow (oT T6 m 22 #[oR a1, oR ae, oR ea, oi 2] []) (st6) ?_
  obtain ⟨fs, hr, hrun, hended, hW, hsame⟩ := X6.leave (v := none) (fun _ => rfl)
  refine ⟨_, _, ?_, hP _ _ hrun hended ⟨_, _, rfl, ?_, ⟨_, rfl⟩, hW, hsame.mono (by decide) (by decide)⟩⟩
  · exact X6.returnOut hx Bd.returns (hb hby d30_22) hr
  ·
   show Qrad_2 Z a1 mc ae ea ke q0_ q1_ h0 n0 _ T6.heap _
   have c8 : Exa Z h6 a1 oS1 := (c5.wr W6)
   have c9 : Fld Z h6 a1 oS8 "modCount" "I" (.int mc) := ((pr2.other W3 (Or.inl (own_ne (by omega)))).other W6 (Or.inr (slot_ne (Or.inl (own_hw hw 64)) (Or.inl (own_hw hw 166)) (by decide) (t := .int) (t' := .int) (by decide) (by decide))))
   have c10 : Fld Z h6 a1 oS1 "elementData" oS3 (.ref ea) := ((pr3.other W3 (Or.inl (own_ne (by omega)))).other W6 (Or.inr (slot_ne (Or.inl (own_hw hw 67)) (Or.inl (own_hw hw 166)) (by decide) (t := (.array (.object oS2))) (t' := .int) (by decide) (by decide))))
   have c11 : Arv Z h6 ea ke (.object oS2) (10 : Int32) [q0_, q1_, (.ref ae), .null, .null, .null, .null, .null, .null, .null] .null := (v3.other W6 (own_ne (by omega)))
   rw [e6]
   exact ⟨rfl, N6, (((Keep.refl h0 [a1, ea]).wr W3 (Or.inl (List.mem_of_getElem? (i := 1) rfl))).wr W6 (Or.inl (List.mem_of_getElem? (i := 0) rfl))), c8, c9, c10, f6, c11, pr6⟩
theorem ef_rap_2 (m : MethodId) (x0 : Addr) (x1 : Addr) : entryFrame m #[(.ref x0), (.ref x1)] 2 = mkF m 0 #[.val (.ref x0), .val (.ref x1)] [] := by first | (simp [entryFrame, mkF, argsToLocals, Value.category]; done) | rfl
def Qrap_2 (Z : State) (a1 : Addr) (mc : Int32) (ae : Addr) (ea : Addr) (ke : ClassId) (q0_ : Value) (q1_ : Value) (h0 : Heap) (n0 : Nat) (v : Option Value) (h : Heap) (L : List Loc) : Prop := (v = some (.int (1 : Int32))) ∧ (Fr n0 L) ∧ (Keep h0 h [a1, ea]) ∧ (Exa Z h a1 "java/util/ArrayList") ∧ (Fld Z h a1 "java/util/AbstractList" "modCount" "I" (.int (mc + (1 : Int32)))) ∧ (Fld Z h a1 "java/util/ArrayList" "elementData" "[Ljava/lang/Object;" (.ref ea)) ∧ (Fld Z h a1 "java/util/ArrayList" "size" "I" (.int (3 : Int32))) ∧ (Arv Z h ea ke (.object "java/lang/Object") (10 : Int32) [q0_, q1_, (.ref ae), .null, .null, .null, .null, .null, .null, .null] .null) ∧ (Ovr Z ke "java/lang/Object")
set_option maxRecDepth 65536 in
set_option maxHeartbeats 40000000 in
theorem rap_2 (l : Launch) (Z : State) (a0 : Array Value) (hw : ∀ d ∈ tables_1, d.before a0 Z = true) (ws : List Jvm.Cond) (a1 : Addr) (mc : Int32) (ae : Addr) (ea : Addr) (ke : ClassId) (q0_ : Value) (q1_ : Value) (h0 : Heap) (n0 : Nat) (Z0 : n0 ≤ h0.size) (pr1 : Exa Z h0 a1 oS1) (pr2 : Fld Z h0 a1 oS8 "modCount" "I" (.int mc)) (pr3 : Fld Z h0 a1 oS1 "elementData" oS3 (.ref ea)) (pr4 : Fld Z h0 a1 oS1 "size" "I" (.int (2 : Int32))) (pr5 : Arv Z h0 ea ke (.object oS2) (10 : Int32) [q0_, q1_, .null, .null, .null, .null, .null, .null, .null, .null] .null) (pr6 : Ovr Z ke oS2) (pr7 : n0 ≤ a1) (pr8 : n0 ≤ ea) (pr9 : @Ne Nat a1 ea) (pr10 : Exa Z h0 ae oS0) :
    MetFree l oM8 (head1 (Jvm.Cond.code oM8 jdk_38_method_25_code 2 (some .boolean) :: ws) ({ frames := 1, cells := 0, slots := 0, locals := 15 } : Room)) (fun a U => a = #[(.ref a1), (.ref ae)] ∧ Z.Warmed39 U.vm ∧ U.heap = h0) (fun _ _ _ _ _ => True) (fun _ U o U' => ∃ v L, o = .returned v ∧ Qrap_2 Z a1 mc ae ea ke q0_ q1_ h0 n0 v U'.heap L ∧ FrameEnd U o U' L ({ frames := 1, cells := 0, slots := 0, locals := 15 } : Room).cells ({ frames := 1, cells := 0, slots := 0, locals := 15 } : Room).slots) := by
  refine MetFree.of_bodySF (plainFor_of_name pn_29) hisR ?_
  intro p e s m args below meth c s₁ Bd hml0 hP0 hK
  obtain ⟨rfl, hZ, hh⟩ := hP0
  have hx := Bd.exec
  have hby := Bd.bytes
  have hml : c.maxLocals = 2 := hml0
  have hown : s.vm.findClass oS1 = some m.cls := findClass_of_methodNamed Bd.named
  have hnm := (name_of_methodNamed Bd.named Bd.method).1
  have X0 : Stand p l e ({ frames := 1, cells := 0, slots := 0, locals := 15 } : Room) s m #[(.ref a1), (.ref ae)] below meth c s₁ [] 0 0 := Stand.of_body Bd
  have e0 : s₁.heap = h0 := by rw [← hh, Bd.state]; rfl
  have N0 := Fr.nil n0
  refine own_fin (st' := s₁.setTop (mkF m 0 #[oR a1, oR ae] [])) (fun _ k => castTop (ef_rap_2 m a1 ae) k) (fun P hP => ?_)
  have lt_a1 : @LT.lt Nat _ a1 h0.size := pr1.lt
  have lt_ea : @LT.lt Nat _ ea h0.size := pr5.lt
  have lt_ae : @LT.lt Nat _ ae h0.size := pr10.lt
  refine ow (oT s₁ m 1 #[oR a1, oR ae] [(.ref a1)]) (fun _ k => XS.aloadN X0.here hx rfl (hb hby d29_0) rfl rfl k) ?_
  refine ow (oT s₁ m 2 #[oR a1, oR ae] [(.ref a1), (.ref a1)]) (fun _ k => XS.dup X0.here hx rfl (hb hby d29_1) rfl rfl k) ?_
  obtain ⟨T1, X1, e1, st1⟩ := getF X0 hx hZ hown (host := "") (Or.inl (own_hw hw 175)) (Via.of (own_hw hw 176)) e0 pr2 (g := (mkF m 2 #[oR a1, oR ae] [(.ref a1), (.ref a1)])) rfl rfl (hb hby d29_2)
  refine ow (oT T1 m 5 #[oR a1, oR ae] [(.int mc), (.ref a1)]) (st1) ?_
  refine ow (oT T1 m 6 #[oR a1, oR ae] [(.int (1 : Int32)), (.int mc), (.ref a1)]) (fun _ k => XS.iconst X1.here hx rfl (hb hby d29_5) k) ?_
  refine ow (oT T1 m 7 #[oR a1, oR ae] [(.int (mc + (1 : Int32))), (.ref a1)]) (fun _ k => XS.iadd X1.here hx rfl (hb hby d29_6) rfl k) ?_
  obtain ⟨T2, h2, X2, e2, W2, st2⟩ := putF X1 hx hZ hown (host := "") (Or.inl (own_hw hw 175)) (Via.of (own_hw hw 176)) e1 pr2 pr1 (Or.inl (own_hw hw 64)) (own_hw hw 45) (ty := .int) (by decide) rfl rfl (g := (mkF m 7 #[oR a1, oR ae] [(.int (mc + (1 : Int32))), (.ref a1)])) rfl rfl (hb hby d29_7)
  have sz2 : h2.size = h0.size := W2.size
  have N2 := Fr.snoc X2 N0 (by omega)
  have f2 : Fld Z h2 a1 oS8 "modCount" "I" (.int (mc + (1 : Int32))) := pr2.same W2
  refine ow (oT T2 m 10 #[oR a1, oR ae] []) (st2) ?_
  refine ow (oT T2 m 11 #[oR a1, oR ae] [(.ref a1)]) (fun _ k => XS.aloadN X2.here hx rfl (hb hby d29_10) rfl rfl k) ?_
  refine ow (oT T2 m 12 #[oR a1, oR ae] [(.ref ae), (.ref a1)]) (fun _ k => XS.aloadN X2.here hx rfl (hb hby d29_11) rfl rfl k) ?_
  refine ow (oT T2 m 13 #[oR a1, oR ae] [(.ref a1), (.ref ae), (.ref a1)]) (fun _ k => XS.aloadN X2.here hx rfl (hb hby d29_12) rfl rfl k) ?_
  have c3 : Fld Z h2 a1 oS1 "elementData" oS3 (.ref ea) := (pr3.other W2 (Or.inr (slot_ne (Or.inl (own_hw hw 67)) (Or.inl (own_hw hw 64)) (by decide) (t := (.array (.object oS2))) (t' := .int) (by decide) (by decide))))
  obtain ⟨T4, X4, e4, st4⟩ := getF X2 hx hZ hown (host := "") (Or.inl (own_hw hw 66)) Via.refl e2 c3 (g := (mkF m 13 #[oR a1, oR ae] [(.ref a1), (.ref ae), (.ref a1)])) rfl rfl (hb hby d29_13)
  refine ow (oT T4 m 16 #[oR a1, oR ae] [(.ref ea), (.ref ae), (.ref a1)]) (st4) ?_
  refine ow (oT T4 m 17 #[oR a1, oR ae] [(.ref a1), (.ref ea), (.ref ae), (.ref a1)]) (fun _ k => XS.aloadN X4.here hx rfl (hb hby d29_16) rfl rfl k) ?_
  have c5 : Fld Z h2 a1 oS1 "size" "I" (.int (2 : Int32)) := (pr4.other W2 (Or.inr (slot_ne (Or.inl (own_hw hw 166)) (Or.inl (own_hw hw 64)) (by decide) (t := .int) (t' := .int) (by decide) (by decide))))
  obtain ⟨T6, X6, e6, st6⟩ := getF X4 hx hZ hown (host := "") (Or.inl (own_hw hw 165)) Via.refl e4 c5 (g := (mkF m 17 #[oR a1, oR ae] [(.ref a1), (.ref ea), (.ref ae), (.ref a1)])) rfl rfl (hb hby d29_17)
  refine ow (oT T6 m 20 #[oR a1, oR ae] [(.int (2 : Int32)), (.ref ea), (.ref ae), (.ref a1)]) (st6) ?_
  have c8 : Exa Z h2 a1 oS1 := (pr1.wr W2)
  have c9 : Arv Z h2 ea ke (.object oS2) (10 : Int32) [q0_, q1_, .null, .null, .null, .null, .null, .null, .null, .null] .null := (pr5.other W2 (own_ne (by omega)))
  have c10 : Exa Z h2 ae oS0 := (pr10.wr W2)
  obtain ⟨cq7, qc7, qc7'⟩ := (c8).cell
  obtain ⟨_, _, ⟨T7, LC7, kC7, nC7⟩, -, X7, ⟨Lc7, hQ7, lq7, yq7, zq7⟩, st7⟩ := X6.privateBack hx (y := oM16) hown (mvT hZ (own_hw hw 177)) (mvT hZ (own_hw hw 178)) (mvT hZ (own_hw hw 180)) (Cond.privateMethod_at (mvP hZ (own_hw hw 179) (args := #[]))) (mvT hZ (own_hw hw 181)) (by decide) (backOf (W := 0) (rad_2 l Z a0 hw [] a1 (mc + (1 : Int32)) ae ea ke q0_ q1_ h2 n0 (by omega) c8 f2 c3 c5 c9 pr6 (by omega) (by omega) (own_ne (by omega)) c10) hZ (own_hw hw 181) (own_hw hw 46) (by decide) (by decide)) (g := (mkF m 20 #[oR a1, oR ae] [(.int (2 : Int32)), (.ref ea), (.ref ae), (.ref a1)])) rfl hml.symm (Steps.refl _) (a := a1) (by rw [e6]; exact qc7) qc7' (argsL := [(.ref ae), (.ref ea), (.int (2 : Int32))]) (rest := []) (lenOf pd_12 rfl) rfl (Nat.le_of_eq rfl) (hb hby d29_20) (fun _ _ => ⟨rfl, e6, (by decide : 0 + 0 ≤ _), (by decide : 0 + 0 ≤ _)⟩)
  dsimp only [Pt.U, Pt.locs, Pt.cells, Pt.slots] at X7 lq7 yq7 zq7 st7 hQ7
  subst lq7 yq7 zq7
  obtain ⟨h7, e7⟩ : ∃ z, T7.heap = z := ⟨_, rfl⟩
  rw [e7] at hQ7
  obtain ⟨rfl, Nq7, K7, g7_0, g7_1, g7_2, g7_3, g7_4, g7_5⟩ := hQ7
  have sz7 : h2.size ≤ h7.size := K7.1
  have N7 := Fr.app N2 Nq7
  have lt7_1 : @LT.lt Nat _ a1 h7.size := g7_0.lt
  have lt7_2 : @LT.lt Nat _ ea h7.size := g7_4.lt
  refine ow (oT T7 m 23 #[oR a1, oR ae] []) (fun _ k => st7.trans k) ?_
  refine ow (oT T7 m 24 #[oR a1, oR ae] [(.int (1 : Int32))]) (fun _ k => XS.iconst X7.here hx rfl (hb hby d29_23) k) ?_
  obtain ⟨fs, hr, hrun, hended, hW, hsame⟩ := X7.leave (v := some (.int (1 : Int32))) (fun h => by rw [Bd.returns] at h; cases h)
  refine ⟨_, _, ?_, hP _ _ hrun hended ⟨_, _, rfl, ?_, ⟨_, rfl⟩, hW, hsame.mono (by decide) (by decide)⟩⟩
  · exact retN X7 hx (t := .boolean) Bd.returns (by simp) (hb hby d29_24) hr
  ·
   show Qrap_2 Z a1 mc ae ea ke q0_ q1_ h0 n0 _ T7.heap _
   rw [e7]
   exact ⟨rfl, N7, (((Keep.refl h0 [a1, ea]).wr W2 (Or.inl (List.mem_of_getElem? (i := 0) rfl))).trans K7 (allS (P := fun x => x ∈ [a1, ea] ∨ h0.size ≤ x) (Or.inl (List.mem_of_getElem? (i := 0) rfl)) (allS (P := fun x => x ∈ [a1, ea] ∨ h0.size ≤ x) (Or.inl (List.mem_of_getElem? (i := 1) rfl)) all0))), g7_0, g7_1, g7_2, g7_3, g7_4, g7_5⟩
theorem d28_0 : decode jdk_38_method_8_code 0 = .ok (.aload_n 0, 1) := by decide +kernel
theorem d28_1 : decode jdk_38_method_8_code 1 = .ok (.getfield 48, 3) := by decide +kernel
theorem d28_4 : decode jdk_38_method_8_code 4 = .ok (.ireturn, 1) := by decide +kernel
theorem pn_28 : plainName "java/util/ArrayList" = true := by first | (simp [plainName, overriddenIn]; done) | decide +kernel
theorem ef_rm28 (m : MethodId) (x0 : Addr) : entryFrame m #[(.ref x0)] 1 = mkF m 0 #[.val (.ref x0)] [] := by first | (simp [entryFrame, mkF, argsToLocals, Value.category]; done) | rfl
def Qrm28 (Z : State) (a1 : Addr) (zn : Int32) (h0 : Heap) (n0 : Nat) (v : Option Value) (h : Heap) (L : List Loc) : Prop := (v = some (.int zn)) ∧ (Fr n0 L) ∧ (h = h0)
set_option maxRecDepth 65536 in
set_option maxHeartbeats 40000000 in
theorem rm28 (l : Launch) (Z : State) (a0 : Array Value) (hw : ∀ d ∈ tables_1, d.before a0 Z = true) (ws : List Jvm.Cond) (a1 : Addr) (zn : Int32) (h0 : Heap) (n0 : Nat) (Z0 : n0 ≤ h0.size) (pr1 : Fld Z h0 a1 oS1 "size" "I" (.int zn)) :
    MetFree l oM18 (head1 (Jvm.Cond.code oM18 jdk_38_method_8_code 1 (some .int) :: ws) ({ frames := 0, cells := 0, slots := 0, locals := 0 } : Room)) (fun a U => a = #[(.ref a1)] ∧ Z.Warmed39 U.vm ∧ U.heap = h0) (fun _ _ _ _ _ => True) (fun _ U o U' => ∃ v L, o = .returned v ∧ Qrm28 Z a1 zn h0 n0 v U'.heap L ∧ FrameEnd U o U' L ({ frames := 0, cells := 0, slots := 0, locals := 0 } : Room).cells ({ frames := 0, cells := 0, slots := 0, locals := 0 } : Room).slots) := by
  refine MetFree.of_bodySF (plainFor_of_name pn_28) hisR ?_
  intro p e s m args below meth c s₁ Bd hml0 hP0 hK
  obtain ⟨rfl, hZ, hh⟩ := hP0
  have hx := Bd.exec
  have hby := Bd.bytes
  have hml : c.maxLocals = 1 := hml0
  have hown : s.vm.findClass oS1 = some m.cls := findClass_of_methodNamed Bd.named
  have hnm := (name_of_methodNamed Bd.named Bd.method).1
  have X0 : Stand p l e ({ frames := 0, cells := 0, slots := 0, locals := 0 } : Room) s m #[(.ref a1)] below meth c s₁ [] 0 0 := Stand.of_body Bd
  have e0 : s₁.heap = h0 := by rw [← hh, Bd.state]; rfl
  have N0 := Fr.nil n0
  refine own_fin (st' := s₁.setTop (mkF m 0 #[oR a1] [])) (fun _ k => castTop (ef_rm28 m a1) k) (fun P hP => ?_)
  have lt_a1 : @LT.lt Nat _ a1 h0.size := pr1.lt
  refine ow (oT s₁ m 1 #[oR a1] [(.ref a1)]) (fun _ k => XS.aloadN X0.here hx rfl (hb hby d28_0) rfl rfl k) ?_
  obtain ⟨T1, X1, e1, st1⟩ := getF X0 hx hZ hown (host := "") (Or.inl (own_hw hw 165)) Via.refl e0 pr1 (g := (mkF m 1 #[oR a1] [(.ref a1)])) rfl rfl (hb hby d28_1)
  refine ow (oT T1 m 4 #[oR a1] [(.int zn)]) (st1) ?_
  obtain ⟨fs, hr, hrun, hended, hW, hsame⟩ := X1.leave (v := some (.int zn)) (fun h => by rw [Bd.returns] at h; cases h)
  refine ⟨_, _, ?_, hP _ _ hrun hended ⟨_, _, rfl, ?_, ⟨_, rfl⟩, hW, hsame.mono (by decide) (by decide)⟩⟩
  · exact retOut X1 hx Bd.returns rfl (Or.inl ⟨rfl, Or.inl rfl, _, rfl⟩) (hb hby d28_4) hr
  ·
   show Qrm28 Z a1 zn h0 n0 _ T1.heap _
   rw [e1]
   exact ⟨rfl, N0, rfl⟩
theorem d36_0 : decode jdk_41_method_11_code 0 = .ok (.iload_n 0, 1) := by decide +kernel
theorem d36_1 : decode jdk_41_method_11_code 1 = .ok (.ifCond .lt 8, 3) := by decide +kernel
theorem d36_4 : decode jdk_41_method_11_code 4 = .ok (.iload_n 0, 1) := by decide +kernel
theorem d36_5 : decode jdk_41_method_11_code 5 = .ok (.iload_n 1, 1) := by decide +kernel
theorem d36_6 : decode jdk_41_method_11_code 6 = .ok (.if_icmp .lt 10, 3) := by decide +kernel
theorem d36_16 : decode jdk_41_method_11_code 16 = .ok (.iload_n 0, 1) := by decide +kernel
theorem d36_17 : decode jdk_41_method_11_code 17 = .ok (.ireturn, 1) := by decide +kernel
theorem pn_36 : plainName "jdk/internal/util/Preconditions" = true := by first | (simp [plainName, overriddenIn]; done) | decide +kernel
theorem ef_rci_01 (m : MethodId) (x0 : Int32) (x1 : Int32) : entryFrame m #[(.int x0), (.int x1), .null] 3 = mkF m 0 #[.val (.int x0), .val (.int x1), .val .null] [] := by first | (simp [entryFrame, mkF, argsToLocals, Value.category]; done) | rfl
def Qrci_01 (Z : State)  (h0 : Heap) (n0 : Nat) (v : Option Value) (h : Heap) (L : List Loc) : Prop := (v = some (.int (0 : Int32))) ∧ (Fr n0 L) ∧ (h = h0)
set_option maxRecDepth 65536 in
set_option maxHeartbeats 40000000 in
theorem rci_01 (l : Launch) (Z : State) (a0 : Array Value) (hw : ∀ d ∈ tables_1, d.before a0 Z = true) (ws : List Jvm.Cond)  (h0 : Heap) (n0 : Nat) (Z0 : n0 ≤ h0.size)  :
    MetFree l oM2 (head1 (Jvm.Cond.code oM2 jdk_41_method_11_code 3 (some .int) :: ws) ({ frames := 0, cells := 0, slots := 0, locals := 0 } : Room)) (fun a U => a = #[(.int (0 : Int32)), (.int (1 : Int32)), .null] ∧ Z.Warmed39 U.vm ∧ U.heap = h0) (fun _ _ _ _ _ => True) (fun _ U o U' => ∃ v L, o = .returned v ∧ Qrci_01 Z  h0 n0 v U'.heap L ∧ FrameEnd U o U' L ({ frames := 0, cells := 0, slots := 0, locals := 0 } : Room).cells ({ frames := 0, cells := 0, slots := 0, locals := 0 } : Room).slots) := by
  refine MetFree.of_bodySF (plainFor_of_name pn_36) hisR ?_
  intro p e s m args below meth c s₁ Bd hml0 hP0 hK
  obtain ⟨rfl, hZ, hh⟩ := hP0
  have hx := Bd.exec
  have hby := Bd.bytes
  have hml : c.maxLocals = 3 := hml0
  have hown : s.vm.findClass oS17 = some m.cls := findClass_of_methodNamed Bd.named
  have hnm := (name_of_methodNamed Bd.named Bd.method).1
  have X0 : Stand p l e ({ frames := 0, cells := 0, slots := 0, locals := 0 } : Room) s m #[(.int (0 : Int32)), (.int (1 : Int32)), .null] below meth c s₁ [] 0 0 := Stand.of_body Bd
  have e0 : s₁.heap = h0 := by rw [← hh, Bd.state]; rfl
  have N0 := Fr.nil n0
  refine own_fin (st' := s₁.setTop (mkF m 0 #[oi 0, oi 1, .val .null] [])) (fun _ k => castTop (ef_rci_01 m (0 : Int32) (1 : Int32)) k) (fun P hP => ?_)
  refine ow (oT s₁ m 1 #[oi 0, oi 1, .val .null] [(.int (0 : Int32))]) (fun _ k => XS.iloadN X0.here hx rfl (hb hby d36_0) rfl k) ?_
  have hc1 : ¬ ((0 : Int32) < (0 : Int32)) := by decide
  refine ow (oT s₁ m 4 #[oi 0, oi 1, .val .null] []) (fun _ k => XS.ifNo X0.here hx rfl (hb hby d36_1) rfl ((if0 _ _).trans (flt hc1).1) k) ?_
  refine ow (oT s₁ m 5 #[oi 0, oi 1, .val .null] [(.int (0 : Int32))]) (fun _ k => XS.iloadN X0.here hx rfl (hb hby d36_4) rfl k) ?_
  refine ow (oT s₁ m 6 #[oi 0, oi 1, .val .null] [(.int (1 : Int32)), (.int (0 : Int32))]) (fun _ k => XS.iloadN X0.here hx rfl (hb hby d36_5) rfl k) ?_
  have hc2 : (0 : Int32) < (1 : Int32) := by decide
  refine ow (oT s₁ m 16 #[oi 0, oi 1, .val .null] []) (fun _ k => XS.icmpYes X0.here hx rfl (pc0 := 6) (pc' := 16) rfl (hb hby d36_6) rfl (tlt hc2).1 (by decide) (by decide) k) ?_
  refine ow (oT s₁ m 17 #[oi 0, oi 1, .val .null] [(.int (0 : Int32))]) (fun _ k => XS.iloadN X0.here hx rfl (hb hby d36_16) rfl k) ?_
  obtain ⟨fs, hr, hrun, hended, hW, hsame⟩ := X0.leave (v := some (.int (0 : Int32))) (fun h => by rw [Bd.returns] at h; cases h)
  refine ⟨_, _, ?_, hP _ _ hrun hended ⟨_, _, rfl, ?_, ⟨_, rfl⟩, hW, hsame.mono (by decide) (by decide)⟩⟩
  · exact retOut X0 hx Bd.returns rfl (Or.inl ⟨rfl, Or.inl rfl, _, rfl⟩) (hb hby d36_17) hr
  ·
   show Qrci_01 Z  h0 n0 _ s₁.heap _
   rw [e0]
   exact ⟨rfl, N0, rfl⟩
theorem pd_13 : parseMethodDescriptor "(IILjava/util/function/BiFunction;)I" = some ⟨[.int, .int, (.object "java/util/function/BiFunction")], some .int⟩ := by decide +kernel
theorem d35_0 : decode jdk_31_method_17_code 0 = .ok (.iload_n 0, 1) := by decide +kernel
theorem d35_1 : decode jdk_31_method_17_code 1 = .ok (.iload_n 1, 1) := by decide +kernel
theorem d35_2 : decode jdk_31_method_17_code 2 = .ok (.aconst_null, 1) := by decide +kernel
theorem d35_3 : decode jdk_31_method_17_code 3 = .ok (.invokestatic 105, 3) := by decide +kernel
theorem d35_6 : decode jdk_31_method_17_code 6 = .ok (.ireturn, 1) := by decide +kernel
theorem pn_35 : plainName "java/util/Objects" = true := by first | (simp [plainName, overriddenIn]; done) | decide +kernel
theorem ef_rcj_01 (m : MethodId) (x0 : Int32) (x1 : Int32) : entryFrame m #[(.int x0), (.int x1)] 2 = mkF m 0 #[.val (.int x0), .val (.int x1)] [] := by first | (simp [entryFrame, mkF, argsToLocals, Value.category]; done) | rfl
def Qrcj_01 (Z : State)  (h0 : Heap) (n0 : Nat) (v : Option Value) (h : Heap) (L : List Loc) : Prop := (v = some (.int (0 : Int32))) ∧ (Fr n0 L) ∧ (h = h0)
set_option maxRecDepth 65536 in
set_option maxHeartbeats 40000000 in
theorem rcj_01 (l : Launch) (Z : State) (a0 : Array Value) (hw : ∀ d ∈ tables_1, d.before a0 Z = true) (ws : List Jvm.Cond)  (h0 : Heap) (n0 : Nat) (Z0 : n0 ≤ h0.size)  :
    MetFree l oM3 (head1 (Jvm.Cond.code oM3 jdk_31_method_17_code 2 (some .int) :: ws) ({ frames := 1, cells := 0, slots := 0, locals := 14 } : Room)) (fun a U => a = #[(.int (0 : Int32)), (.int (1 : Int32))] ∧ Z.Warmed39 U.vm ∧ U.heap = h0) (fun _ _ _ _ _ => True) (fun _ U o U' => ∃ v L, o = .returned v ∧ Qrcj_01 Z  h0 n0 v U'.heap L ∧ FrameEnd U o U' L ({ frames := 1, cells := 0, slots := 0, locals := 14 } : Room).cells ({ frames := 1, cells := 0, slots := 0, locals := 14 } : Room).slots) := by
  refine MetFree.of_bodySF (plainFor_of_name pn_35) hisR ?_
  intro p e s m args below meth c s₁ Bd hml0 hP0 hK
  obtain ⟨rfl, hZ, hh⟩ := hP0
  have hx := Bd.exec
  have hby := Bd.bytes
  have hml : c.maxLocals = 2 := hml0
  have hown : s.vm.findClass oS15 = some m.cls := findClass_of_methodNamed Bd.named
  have hnm := (name_of_methodNamed Bd.named Bd.method).1
  have X0 : Stand p l e ({ frames := 1, cells := 0, slots := 0, locals := 14 } : Room) s m #[(.int (0 : Int32)), (.int (1 : Int32))] below meth c s₁ [] 0 0 := Stand.of_body Bd
  have e0 : s₁.heap = h0 := by rw [← hh, Bd.state]; rfl
  have N0 := Fr.nil n0
  refine own_fin (st' := s₁.setTop (mkF m 0 #[oi 0, oi 1] [])) (fun _ k => castTop (ef_rcj_01 m (0 : Int32) (1 : Int32)) k) (fun P hP => ?_)
  refine ow (oT s₁ m 1 #[oi 0, oi 1] [(.int (0 : Int32))]) (fun _ k => XS.iloadN X0.here hx rfl (hb hby d35_0) rfl k) ?_
  refine ow (oT s₁ m 2 #[oi 0, oi 1] [(.int (1 : Int32)), (.int (0 : Int32))]) (fun _ k => XS.iloadN X0.here hx rfl (hb hby d35_1) rfl k) ?_
  refine ow (oT s₁ m 3 #[oi 0, oi 1] [.null, (.int (1 : Int32)), (.int (0 : Int32))]) (fun _ k => XS.aconstNull X0.here hx rfl (hb hby d35_2) k) ?_
  obtain ⟨_, _, ⟨T1, LC1, kC1, nC1⟩, -, X1, ⟨Lc1, hQ1, lq1, yq1, zq1⟩, st1⟩ := Jvm.LawKit.callS X0 hx (y := oM2) hown (mvT hZ (own_hw hw 207)) (mvT hZ (own_hw hw 208)) (mvT hZ (own_hw hw 209)) (mvT hZ (own_hw hw 210)) (by decide) (backOf (W := 0) (rci_01 l Z a0 hw []  h0 n0 (by omega) ) hZ (own_hw hw 210) (own_hw hw 209) (by decide) (by decide)) (g := (mkF m 3 #[oi 0, oi 1] [.null, (.int (1 : Int32)), (.int (0 : Int32))])) rfl hml.symm (argsL := [(.int (0 : Int32)), (.int (1 : Int32)), .null]) (rest := []) (lenOf pd_13 rfl) rfl (Nat.le_of_eq rfl) (hb hby d35_3) (fun _ _ => ⟨rfl, e0, (by decide : 0 + 0 ≤ _), (by decide : 0 + 0 ≤ _)⟩)
  dsimp only [Pt.U, Pt.locs, Pt.cells, Pt.slots] at X1 lq1 yq1 zq1 st1 hQ1
  subst lq1 yq1 zq1
  obtain ⟨rfl, Nq1, eq1⟩ := hQ1
  have N1 := Fr.app N0 Nq1
  refine ow (oT T1 m 6 #[oi 0, oi 1] [(.int (0 : Int32))]) (fun t k => st1 t k) ?_
  obtain ⟨fs, hr, hrun, hended, hW, hsame⟩ := X1.leave (v := some (.int (0 : Int32))) (fun h => by rw [Bd.returns] at h; cases h)
  refine ⟨_, _, ?_, hP _ _ hrun hended ⟨_, _, rfl, ?_, ⟨_, rfl⟩, hW, hsame.mono (by decide) (by decide)⟩⟩
  · exact retOut X1 hx Bd.returns rfl (Or.inl ⟨rfl, Or.inl rfl, _, rfl⟩) (hb hby d35_6) hr
  ·
   show Qrcj_01 Z  h0 n0 _ T1.heap _
   rw [eq1]
   exact ⟨rfl, N1, rfl⟩
theorem ef_rci_02 (m : MethodId) (x0 : Int32) (x1 : Int32) : entryFrame m #[(.int x0), (.int x1), .null] 3 = mkF m 0 #[.val (.int x0), .val (.int x1), .val .null] [] := by first | (simp [entryFrame, mkF, argsToLocals, Value.category]; done) | rfl
def Qrci_02 (Z : State)  (h0 : Heap) (n0 : Nat) (v : Option Value) (h : Heap) (L : List Loc) : Prop := (v = some (.int (0 : Int32))) ∧ (Fr n0 L) ∧ (h = h0)
set_option maxRecDepth 65536 in
set_option maxHeartbeats 40000000 in
theorem rci_02 (l : Launch) (Z : State) (a0 : Array Value) (hw : ∀ d ∈ tables_1, d.before a0 Z = true) (ws : List Jvm.Cond)  (h0 : Heap) (n0 : Nat) (Z0 : n0 ≤ h0.size)  :
    MetFree l oM2 (head1 (Jvm.Cond.code oM2 jdk_41_method_11_code 3 (some .int) :: ws) ({ frames := 0, cells := 0, slots := 0, locals := 0 } : Room)) (fun a U => a = #[(.int (0 : Int32)), (.int (2 : Int32)), .null] ∧ Z.Warmed39 U.vm ∧ U.heap = h0) (fun _ _ _ _ _ => True) (fun _ U o U' => ∃ v L, o = .returned v ∧ Qrci_02 Z  h0 n0 v U'.heap L ∧ FrameEnd U o U' L ({ frames := 0, cells := 0, slots := 0, locals := 0 } : Room).cells ({ frames := 0, cells := 0, slots := 0, locals := 0 } : Room).slots) := by
  refine MetFree.of_bodySF (plainFor_of_name pn_36) hisR ?_
  intro p e s m args below meth c s₁ Bd hml0 hP0 hK
  obtain ⟨rfl, hZ, hh⟩ := hP0
  have hx := Bd.exec
  have hby := Bd.bytes
  have hml : c.maxLocals = 3 := hml0
  have hown : s.vm.findClass oS17 = some m.cls := findClass_of_methodNamed Bd.named
  have hnm := (name_of_methodNamed Bd.named Bd.method).1
  have X0 : Stand p l e ({ frames := 0, cells := 0, slots := 0, locals := 0 } : Room) s m #[(.int (0 : Int32)), (.int (2 : Int32)), .null] below meth c s₁ [] 0 0 := Stand.of_body Bd
  have e0 : s₁.heap = h0 := by rw [← hh, Bd.state]; rfl
  have N0 := Fr.nil n0
  refine own_fin (st' := s₁.setTop (mkF m 0 #[oi 0, oi 2, .val .null] [])) (fun _ k => castTop (ef_rci_02 m (0 : Int32) (2 : Int32)) k) (fun P hP => ?_)
  refine ow (oT s₁ m 1 #[oi 0, oi 2, .val .null] [(.int (0 : Int32))]) (fun _ k => XS.iloadN X0.here hx rfl (hb hby d36_0) rfl k) ?_
  have hc1 : ¬ ((0 : Int32) < (0 : Int32)) := by decide
  refine ow (oT s₁ m 4 #[oi 0, oi 2, .val .null] []) (fun _ k => XS.ifNo X0.here hx rfl (hb hby d36_1) rfl ((if0 _ _).trans (flt hc1).1) k) ?_
  refine ow (oT s₁ m 5 #[oi 0, oi 2, .val .null] [(.int (0 : Int32))]) (fun _ k => XS.iloadN X0.here hx rfl (hb hby d36_4) rfl k) ?_
  refine ow (oT s₁ m 6 #[oi 0, oi 2, .val .null] [(.int (2 : Int32)), (.int (0 : Int32))]) (fun _ k => XS.iloadN X0.here hx rfl (hb hby d36_5) rfl k) ?_
  have hc2 : (0 : Int32) < (2 : Int32) := by decide
  refine ow (oT s₁ m 16 #[oi 0, oi 2, .val .null] []) (fun _ k => XS.icmpYes X0.here hx rfl (pc0 := 6) (pc' := 16) rfl (hb hby d36_6) rfl (tlt hc2).1 (by decide) (by decide) k) ?_
  refine ow (oT s₁ m 17 #[oi 0, oi 2, .val .null] [(.int (0 : Int32))]) (fun _ k => XS.iloadN X0.here hx rfl (hb hby d36_16) rfl k) ?_
  obtain ⟨fs, hr, hrun, hended, hW, hsame⟩ := X0.leave (v := some (.int (0 : Int32))) (fun h => by rw [Bd.returns] at h; cases h)
  refine ⟨_, _, ?_, hP _ _ hrun hended ⟨_, _, rfl, ?_, ⟨_, rfl⟩, hW, hsame.mono (by decide) (by decide)⟩⟩
  · exact retOut X0 hx Bd.returns rfl (Or.inl ⟨rfl, Or.inl rfl, _, rfl⟩) (hb hby d36_17) hr
  ·
   show Qrci_02 Z  h0 n0 _ s₁.heap _
   rw [e0]
   exact ⟨rfl, N0, rfl⟩
theorem ef_rcj_02 (m : MethodId) (x0 : Int32) (x1 : Int32) : entryFrame m #[(.int x0), (.int x1)] 2 = mkF m 0 #[.val (.int x0), .val (.int x1)] [] := by first | (simp [entryFrame, mkF, argsToLocals, Value.category]; done) | rfl
def Qrcj_02 (Z : State)  (h0 : Heap) (n0 : Nat) (v : Option Value) (h : Heap) (L : List Loc) : Prop := (v = some (.int (0 : Int32))) ∧ (Fr n0 L) ∧ (h = h0)
set_option maxRecDepth 65536 in
set_option maxHeartbeats 40000000 in
theorem rcj_02 (l : Launch) (Z : State) (a0 : Array Value) (hw : ∀ d ∈ tables_1, d.before a0 Z = true) (ws : List Jvm.Cond)  (h0 : Heap) (n0 : Nat) (Z0 : n0 ≤ h0.size)  :
    MetFree l oM3 (head1 (Jvm.Cond.code oM3 jdk_31_method_17_code 2 (some .int) :: ws) ({ frames := 1, cells := 0, slots := 0, locals := 14 } : Room)) (fun a U => a = #[(.int (0 : Int32)), (.int (2 : Int32))] ∧ Z.Warmed39 U.vm ∧ U.heap = h0) (fun _ _ _ _ _ => True) (fun _ U o U' => ∃ v L, o = .returned v ∧ Qrcj_02 Z  h0 n0 v U'.heap L ∧ FrameEnd U o U' L ({ frames := 1, cells := 0, slots := 0, locals := 14 } : Room).cells ({ frames := 1, cells := 0, slots := 0, locals := 14 } : Room).slots) := by
  refine MetFree.of_bodySF (plainFor_of_name pn_35) hisR ?_
  intro p e s m args below meth c s₁ Bd hml0 hP0 hK
  obtain ⟨rfl, hZ, hh⟩ := hP0
  have hx := Bd.exec
  have hby := Bd.bytes
  have hml : c.maxLocals = 2 := hml0
  have hown : s.vm.findClass oS15 = some m.cls := findClass_of_methodNamed Bd.named
  have hnm := (name_of_methodNamed Bd.named Bd.method).1
  have X0 : Stand p l e ({ frames := 1, cells := 0, slots := 0, locals := 14 } : Room) s m #[(.int (0 : Int32)), (.int (2 : Int32))] below meth c s₁ [] 0 0 := Stand.of_body Bd
  have e0 : s₁.heap = h0 := by rw [← hh, Bd.state]; rfl
  have N0 := Fr.nil n0
  refine own_fin (st' := s₁.setTop (mkF m 0 #[oi 0, oi 2] [])) (fun _ k => castTop (ef_rcj_02 m (0 : Int32) (2 : Int32)) k) (fun P hP => ?_)
  refine ow (oT s₁ m 1 #[oi 0, oi 2] [(.int (0 : Int32))]) (fun _ k => XS.iloadN X0.here hx rfl (hb hby d35_0) rfl k) ?_
  refine ow (oT s₁ m 2 #[oi 0, oi 2] [(.int (2 : Int32)), (.int (0 : Int32))]) (fun _ k => XS.iloadN X0.here hx rfl (hb hby d35_1) rfl k) ?_
  refine ow (oT s₁ m 3 #[oi 0, oi 2] [.null, (.int (2 : Int32)), (.int (0 : Int32))]) (fun _ k => XS.aconstNull X0.here hx rfl (hb hby d35_2) k) ?_
  obtain ⟨_, _, ⟨T1, LC1, kC1, nC1⟩, -, X1, ⟨Lc1, hQ1, lq1, yq1, zq1⟩, st1⟩ := Jvm.LawKit.callS X0 hx (y := oM2) hown (mvT hZ (own_hw hw 207)) (mvT hZ (own_hw hw 208)) (mvT hZ (own_hw hw 209)) (mvT hZ (own_hw hw 210)) (by decide) (backOf (W := 0) (rci_02 l Z a0 hw []  h0 n0 (by omega) ) hZ (own_hw hw 210) (own_hw hw 209) (by decide) (by decide)) (g := (mkF m 3 #[oi 0, oi 2] [.null, (.int (2 : Int32)), (.int (0 : Int32))])) rfl hml.symm (argsL := [(.int (0 : Int32)), (.int (2 : Int32)), .null]) (rest := []) (lenOf pd_13 rfl) rfl (Nat.le_of_eq rfl) (hb hby d35_3) (fun _ _ => ⟨rfl, e0, (by decide : 0 + 0 ≤ _), (by decide : 0 + 0 ≤ _)⟩)
  dsimp only [Pt.U, Pt.locs, Pt.cells, Pt.slots] at X1 lq1 yq1 zq1 st1 hQ1
  subst lq1 yq1 zq1
  obtain ⟨rfl, Nq1, eq1⟩ := hQ1
  have N1 := Fr.app N0 Nq1
  refine ow (oT T1 m 6 #[oi 0, oi 2] [(.int (0 : Int32))]) (fun t k => st1 t k) ?_
  obtain ⟨fs, hr, hrun, hended, hW, hsame⟩ := X1.leave (v := some (.int (0 : Int32))) (fun h => by rw [Bd.returns] at h; cases h)
  refine ⟨_, _, ?_, hP _ _ hrun hended ⟨_, _, rfl, ?_, ⟨_, rfl⟩, hW, hsame.mono (by decide) (by decide)⟩⟩
  · exact retOut X1 hx Bd.returns rfl (Or.inl ⟨rfl, Or.inl rfl, _, rfl⟩) (hb hby d35_6) hr
  ·
   show Qrcj_02 Z  h0 n0 _ T1.heap _
   rw [eq1]
   exact ⟨rfl, N1, rfl⟩
theorem ef_rci_03 (m : MethodId) (x0 : Int32) (x1 : Int32) : entryFrame m #[(.int x0), (.int x1), .null] 3 = mkF m 0 #[.val (.int x0), .val (.int x1), .val .null] [] := by first | (simp [entryFrame, mkF, argsToLocals, Value.category]; done) | rfl
def Qrci_03 (Z : State)  (h0 : Heap) (n0 : Nat) (v : Option Value) (h : Heap) (L : List Loc) : Prop := (v = some (.int (0 : Int32))) ∧ (Fr n0 L) ∧ (h = h0)
set_option maxRecDepth 65536 in
set_option maxHeartbeats 40000000 in
theorem rci_03 (l : Launch) (Z : State) (a0 : Array Value) (hw : ∀ d ∈ tables_1, d.before a0 Z = true) (ws : List Jvm.Cond)  (h0 : Heap) (n0 : Nat) (Z0 : n0 ≤ h0.size)  :
    MetFree l oM2 (head1 (Jvm.Cond.code oM2 jdk_41_method_11_code 3 (some .int) :: ws) ({ frames := 0, cells := 0, slots := 0, locals := 0 } : Room)) (fun a U => a = #[(.int (0 : Int32)), (.int (3 : Int32)), .null] ∧ Z.Warmed39 U.vm ∧ U.heap = h0) (fun _ _ _ _ _ => True) (fun _ U o U' => ∃ v L, o = .returned v ∧ Qrci_03 Z  h0 n0 v U'.heap L ∧ FrameEnd U o U' L ({ frames := 0, cells := 0, slots := 0, locals := 0 } : Room).cells ({ frames := 0, cells := 0, slots := 0, locals := 0 } : Room).slots) := by
  refine MetFree.of_bodySF (plainFor_of_name pn_36) hisR ?_
  intro p e s m args below meth c s₁ Bd hml0 hP0 hK
  obtain ⟨rfl, hZ, hh⟩ := hP0
  have hx := Bd.exec
  have hby := Bd.bytes
  have hml : c.maxLocals = 3 := hml0
  have hown : s.vm.findClass oS17 = some m.cls := findClass_of_methodNamed Bd.named
  have hnm := (name_of_methodNamed Bd.named Bd.method).1
  have X0 : Stand p l e ({ frames := 0, cells := 0, slots := 0, locals := 0 } : Room) s m #[(.int (0 : Int32)), (.int (3 : Int32)), .null] below meth c s₁ [] 0 0 := Stand.of_body Bd
  have e0 : s₁.heap = h0 := by rw [← hh, Bd.state]; rfl
  have N0 := Fr.nil n0
  refine own_fin (st' := s₁.setTop (mkF m 0 #[oi 0, oi 3, .val .null] [])) (fun _ k => castTop (ef_rci_03 m (0 : Int32) (3 : Int32)) k) (fun P hP => ?_)
  refine ow (oT s₁ m 1 #[oi 0, oi 3, .val .null] [(.int (0 : Int32))]) (fun _ k => XS.iloadN X0.here hx rfl (hb hby d36_0) rfl k) ?_
  have hc1 : ¬ ((0 : Int32) < (0 : Int32)) := by decide
  refine ow (oT s₁ m 4 #[oi 0, oi 3, .val .null] []) (fun _ k => XS.ifNo X0.here hx rfl (hb hby d36_1) rfl ((if0 _ _).trans (flt hc1).1) k) ?_
  refine ow (oT s₁ m 5 #[oi 0, oi 3, .val .null] [(.int (0 : Int32))]) (fun _ k => XS.iloadN X0.here hx rfl (hb hby d36_4) rfl k) ?_
  refine ow (oT s₁ m 6 #[oi 0, oi 3, .val .null] [(.int (3 : Int32)), (.int (0 : Int32))]) (fun _ k => XS.iloadN X0.here hx rfl (hb hby d36_5) rfl k) ?_
  have hc2 : (0 : Int32) < (3 : Int32) := by decide
  refine ow (oT s₁ m 16 #[oi 0, oi 3, .val .null] []) (fun _ k => XS.icmpYes X0.here hx rfl (pc0 := 6) (pc' := 16) rfl (hb hby d36_6) rfl (tlt hc2).1 (by decide) (by decide) k) ?_
  refine ow (oT s₁ m 17 #[oi 0, oi 3, .val .null] [(.int (0 : Int32))]) (fun _ k => XS.iloadN X0.here hx rfl (hb hby d36_16) rfl k) ?_
  obtain ⟨fs, hr, hrun, hended, hW, hsame⟩ := X0.leave (v := some (.int (0 : Int32))) (fun h => by rw [Bd.returns] at h; cases h)
  refine ⟨_, _, ?_, hP _ _ hrun hended ⟨_, _, rfl, ?_, ⟨_, rfl⟩, hW, hsame.mono (by decide) (by decide)⟩⟩
  · exact retOut X0 hx Bd.returns rfl (Or.inl ⟨rfl, Or.inl rfl, _, rfl⟩) (hb hby d36_17) hr
  ·
   show Qrci_03 Z  h0 n0 _ s₁.heap _
   rw [e0]
   exact ⟨rfl, N0, rfl⟩
theorem ef_rcj_03 (m : MethodId) (x0 : Int32) (x1 : Int32) : entryFrame m #[(.int x0), (.int x1)] 2 = mkF m 0 #[.val (.int x0), .val (.int x1)] [] := by first | (simp [entryFrame, mkF, argsToLocals, Value.category]; done) | rfl
def Qrcj_03 (Z : State)  (h0 : Heap) (n0 : Nat) (v : Option Value) (h : Heap) (L : List Loc) : Prop := (v = some (.int (0 : Int32))) ∧ (Fr n0 L) ∧ (h = h0)
set_option maxRecDepth 65536 in
set_option maxHeartbeats 40000000 in
theorem rcj_03 (l : Launch) (Z : State) (a0 : Array Value) (hw : ∀ d ∈ tables_1, d.before a0 Z = true) (ws : List Jvm.Cond)  (h0 : Heap) (n0 : Nat) (Z0 : n0 ≤ h0.size)  :
    MetFree l oM3 (head1 (Jvm.Cond.code oM3 jdk_31_method_17_code 2 (some .int) :: ws) ({ frames := 1, cells := 0, slots := 0, locals := 14 } : Room)) (fun a U => a = #[(.int (0 : Int32)), (.int (3 : Int32))] ∧ Z.Warmed39 U.vm ∧ U.heap = h0) (fun _ _ _ _ _ => True) (fun _ U o U' => ∃ v L, o = .returned v ∧ Qrcj_03 Z  h0 n0 v U'.heap L ∧ FrameEnd U o U' L ({ frames := 1, cells := 0, slots := 0, locals := 14 } : Room).cells ({ frames := 1, cells := 0, slots := 0, locals := 14 } : Room).slots) := by
  refine MetFree.of_bodySF (plainFor_of_name pn_35) hisR ?_
  intro p e s m args below meth c s₁ Bd hml0 hP0 hK
  obtain ⟨rfl, hZ, hh⟩ := hP0
  have hx := Bd.exec
  have hby := Bd.bytes
  have hml : c.maxLocals = 2 := hml0
  have hown : s.vm.findClass oS15 = some m.cls := findClass_of_methodNamed Bd.named
  have hnm := (name_of_methodNamed Bd.named Bd.method).1
  have X0 : Stand p l e ({ frames := 1, cells := 0, slots := 0, locals := 14 } : Room) s m #[(.int (0 : Int32)), (.int (3 : Int32))] below meth c s₁ [] 0 0 := Stand.of_body Bd
  have e0 : s₁.heap = h0 := by rw [← hh, Bd.state]; rfl
  have N0 := Fr.nil n0
  refine own_fin (st' := s₁.setTop (mkF m 0 #[oi 0, oi 3] [])) (fun _ k => castTop (ef_rcj_03 m (0 : Int32) (3 : Int32)) k) (fun P hP => ?_)
  refine ow (oT s₁ m 1 #[oi 0, oi 3] [(.int (0 : Int32))]) (fun _ k => XS.iloadN X0.here hx rfl (hb hby d35_0) rfl k) ?_
  refine ow (oT s₁ m 2 #[oi 0, oi 3] [(.int (3 : Int32)), (.int (0 : Int32))]) (fun _ k => XS.iloadN X0.here hx rfl (hb hby d35_1) rfl k) ?_
  refine ow (oT s₁ m 3 #[oi 0, oi 3] [.null, (.int (3 : Int32)), (.int (0 : Int32))]) (fun _ k => XS.aconstNull X0.here hx rfl (hb hby d35_2) k) ?_
  obtain ⟨_, _, ⟨T1, LC1, kC1, nC1⟩, -, X1, ⟨Lc1, hQ1, lq1, yq1, zq1⟩, st1⟩ := Jvm.LawKit.callS X0 hx (y := oM2) hown (mvT hZ (own_hw hw 207)) (mvT hZ (own_hw hw 208)) (mvT hZ (own_hw hw 209)) (mvT hZ (own_hw hw 210)) (by decide) (backOf (W := 0) (rci_03 l Z a0 hw []  h0 n0 (by omega) ) hZ (own_hw hw 210) (own_hw hw 209) (by decide) (by decide)) (g := (mkF m 3 #[oi 0, oi 3] [.null, (.int (3 : Int32)), (.int (0 : Int32))])) rfl hml.symm (argsL := [(.int (0 : Int32)), (.int (3 : Int32)), .null]) (rest := []) (lenOf pd_13 rfl) rfl (Nat.le_of_eq rfl) (hb hby d35_3) (fun _ _ => ⟨rfl, e0, (by decide : 0 + 0 ≤ _), (by decide : 0 + 0 ≤ _)⟩)
  dsimp only [Pt.U, Pt.locs, Pt.cells, Pt.slots] at X1 lq1 yq1 zq1 st1 hQ1
  subst lq1 yq1 zq1
  obtain ⟨rfl, Nq1, eq1⟩ := hQ1
  have N1 := Fr.app N0 Nq1
  refine ow (oT T1 m 6 #[oi 0, oi 3] [(.int (0 : Int32))]) (fun t k => st1 t k) ?_
  obtain ⟨fs, hr, hrun, hended, hW, hsame⟩ := X1.leave (v := some (.int (0 : Int32))) (fun h => by rw [Bd.returns] at h; cases h)
  refine ⟨_, _, ?_, hP _ _ hrun hended ⟨_, _, rfl, ?_, ⟨_, rfl⟩, hW, hsame.mono (by decide) (by decide)⟩⟩
  · exact retOut X1 hx Bd.returns rfl (Or.inl ⟨rfl, Or.inl rfl, _, rfl⟩) (hb hby d35_6) hr
  ·
   show Qrcj_03 Z  h0 n0 _ T1.heap _
   rw [eq1]
   exact ⟨rfl, N1, rfl⟩
theorem d37_0 : decode jdk_38_method_18_code 0 = .ok (.aload_n 0, 1) := by decide +kernel
theorem d37_1 : decode jdk_38_method_18_code 1 = .ok (.getfield 9, 3) := by decide +kernel
theorem d37_4 : decode jdk_38_method_18_code 4 = .ok (.iload_n 1, 1) := by decide +kernel
theorem d37_5 : decode jdk_38_method_18_code 5 = .ok (.aaload, 1) := by decide +kernel
theorem d37_6 : decode jdk_38_method_18_code 6 = .ok (.areturn, 1) := by decide +kernel
theorem pn_37 : plainName "java/util/ArrayList" = true := by first | (simp [plainName, overriddenIn]; done) | decide +kernel
theorem ef_red_0 (m : MethodId) (x0 : Addr) (x1 : Int32) : entryFrame m #[(.ref x0), (.int x1)] 2 = mkF m 0 #[.val (.ref x0), .val (.int x1)] [] := by first | (simp [entryFrame, mkF, argsToLocals, Value.category]; done) | rfl
def Qred_0 (Z : State) (a1 : Addr) (ea : Addr) (ke : ClassId) (q0_ : Value) (q1_ : Value) (q2_ : Value) (h0 : Heap) (n0 : Nat) (v : Option Value) (h : Heap) (L : List Loc) : Prop := (v = some q0_) ∧ (Fr n0 L) ∧ (h = h0)
set_option maxRecDepth 65536 in
set_option maxHeartbeats 40000000 in
theorem red_0 (l : Launch) (Z : State) (a0 : Array Value) (hw : ∀ d ∈ tables_1, d.before a0 Z = true) (ws : List Jvm.Cond) (a1 : Addr) (ea : Addr) (ke : ClassId) (q0_ : Value) (q1_ : Value) (q2_ : Value) (h0 : Heap) (n0 : Nat) (Z0 : n0 ≤ h0.size) (pr1 : Fld Z h0 a1 oS1 "elementData" oS3 (.ref ea)) (pr2 : Arv Z h0 ea ke (.object oS2) (10 : Int32) [q0_, q1_, q2_, .null, .null, .null, .null, .null, .null, .null] .null) (hq_ : q0_.isRef = true) :
    MetFree l oM4 (head1 (Jvm.Cond.code oM4 jdk_38_method_18_code 2 (some (.object oS2)) :: ws) ({ frames := 0, cells := 0, slots := 0, locals := 0 } : Room)) (fun a U => a = #[(.ref a1), (.int (0 : Int32))] ∧ Z.Warmed39 U.vm ∧ U.heap = h0) (fun _ _ _ _ _ => True) (fun _ U o U' => ∃ v L, o = .returned v ∧ Qred_0 Z a1 ea ke q0_ q1_ q2_ h0 n0 v U'.heap L ∧ FrameEnd U o U' L ({ frames := 0, cells := 0, slots := 0, locals := 0 } : Room).cells ({ frames := 0, cells := 0, slots := 0, locals := 0 } : Room).slots) := by
  refine MetFree.of_bodySF (plainFor_of_name pn_37) hisR ?_
  intro p e s m args below meth c s₁ Bd hml0 hP0 hK
  obtain ⟨rfl, hZ, hh⟩ := hP0
  have hx := Bd.exec
  have hby := Bd.bytes
  have hml : c.maxLocals = 2 := hml0
  have hown : s.vm.findClass oS1 = some m.cls := findClass_of_methodNamed Bd.named
  have hnm := (name_of_methodNamed Bd.named Bd.method).1
  have X0 : Stand p l e ({ frames := 0, cells := 0, slots := 0, locals := 0 } : Room) s m #[(.ref a1), (.int (0 : Int32))] below meth c s₁ [] 0 0 := Stand.of_body Bd
  have e0 : s₁.heap = h0 := by rw [← hh, Bd.state]; rfl
  have N0 := Fr.nil n0
  refine own_fin (st' := s₁.setTop (mkF m 0 #[oR a1, oi 0] [])) (fun _ k => castTop (ef_red_0 m a1 (0 : Int32)) k) (fun P hP => ?_)
  have lt_a1 : @LT.lt Nat _ a1 h0.size := pr1.lt
  have lt_ea : @LT.lt Nat _ ea h0.size := pr2.lt
  refine ow (oT s₁ m 1 #[oR a1, oi 0] [(.ref a1)]) (fun _ k => XS.aloadN X0.here hx rfl (hb hby d37_0) rfl rfl k) ?_
  obtain ⟨T1, X1, e1, st1⟩ := getF X0 hx hZ hown (host := "") (Or.inl (own_hw hw 66)) Via.refl e0 pr1 (g := (mkF m 1 #[oR a1, oi 0] [(.ref a1)])) rfl rfl (hb hby d37_1)
  refine ow (oT T1 m 4 #[oR a1, oi 0] [(.ref ea)]) (st1) ?_
  refine ow (oT T1 m 5 #[oR a1, oi 0] [(.int (0 : Int32)), (.ref ea)]) (fun _ k => XS.iloadN X1.here hx rfl (hb hby d37_4) rfl k) ?_
  obtain ⟨cl2, Ar2, -, S2, M2, H2, -⟩ := id pr2
  have hin2 : ¬ ((0 : Int32) < 0 ∨ cl2.slots.size ≤ ((0 : Int32)).toNatClampNeg) := (inb_of S2 ⟨by decide, by decide⟩)
  have hat2 : cl2.slots[((0 : Int32)).toNatClampNeg]? = some q0_ := (H2.at hin2 rfl)
  refine ow (oT T1 m 6 #[oR a1, oi 0] [q0_]) (X1.aaload hx (j := (0 : Int32)) (v := q0_) (by rw [e1]; exact Ar2.1) (State.isArrayOf_alike hZ.alike Ar2.2.1) rfl Ar2.2.2 hin2 hat2 (g := (mkF m 5 #[oR a1, oi 0] [(.int (0 : Int32)), (.ref ea)])) rfl rfl (hb hby d37_5)) ?_
  obtain ⟨fs, hr, hrun, hended, hW, hsame⟩ := X1.leave (v := some q0_) (fun h => by rw [Bd.returns] at h; cases h)
  refine ⟨_, _, ?_, hP _ _ hrun hended ⟨_, _, rfl, ?_, ⟨_, rfl⟩, hW, hsame.mono (by decide) (by decide)⟩⟩
  · exact retOut X1 hx Bd.returns (own_nar_ref hq_) (Or.inr (Or.inr (Or.inr (Or.inr ⟨rfl, rfl, hq_⟩)))) (hb hby d37_6) hr
  ·
   show Qred_0 Z a1 ea ke q0_ q1_ q2_ h0 n0 _ T1.heap _
   rw [e1]
   exact ⟨rfl, N0, rfl⟩
theorem pd_14 : parseMethodDescriptor "(I)Ljava/lang/Object;" = some ⟨[.int], some (.object "java/lang/Object")⟩ := by decide +kernel
theorem d34_0 : decode jdk_38_method_20_code 0 = .ok (.iload_n 1, 1) := by decide +kernel
theorem d34_1 : decode jdk_38_method_20_code 1 = .ok (.aload_n 0, 1) := by decide +kernel
theorem d34_2 : decode jdk_38_method_20_code 2 = .ok (.getfield 48, 3) := by decide +kernel
theorem d34_5 : decode jdk_38_method_20_code 5 = .ok (.invokestatic 118, 3) := by decide +kernel
theorem d34_8 : decode jdk_38_method_20_code 8 = .ok (.pop, 1) := by decide +kernel
theorem d34_9 : decode jdk_38_method_20_code 9 = .ok (.aload_n 0, 1) := by decide +kernel
theorem d34_10 : decode jdk_38_method_20_code 10 = .ok (.iload_n 1, 1) := by decide +kernel
theorem d34_11 : decode jdk_38_method_20_code 11 = .ok (.invokevirtual 123, 3) := by decide +kernel
theorem d34_14 : decode jdk_38_method_20_code 14 = .ok (.areturn, 1) := by decide +kernel
theorem pn_34 : plainName "java/util/ArrayList" = true := by first | (simp [plainName, overriddenIn]; done) | decide +kernel
theorem ef_rge_01 (m : MethodId) (x0 : Addr) (x1 : Int32) : entryFrame m #[(.ref x0), (.int x1)] 2 = mkF m 0 #[.val (.ref x0), .val (.int x1)] [] := by first | (simp [entryFrame, mkF, argsToLocals, Value.category]; done) | rfl
def Qrge_01 (Z : State) (a1 : Addr) (ea : Addr) (ke : ClassId) (q0_ : Value) (q1_ : Value) (q2_ : Value) (h0 : Heap) (n0 : Nat) (v : Option Value) (h : Heap) (L : List Loc) : Prop := (v = some q0_) ∧ (Fr n0 L) ∧ (h = h0)
set_option maxRecDepth 65536 in
set_option maxHeartbeats 40000000 in
theorem rge_01 (l : Launch) (Z : State) (a0 : Array Value) (hw : ∀ d ∈ tables_1, d.before a0 Z = true) (ws : List Jvm.Cond) (a1 : Addr) (ea : Addr) (ke : ClassId) (q0_ : Value) (q1_ : Value) (q2_ : Value) (h0 : Heap) (n0 : Nat) (Z0 : n0 ≤ h0.size) (pr1 : Exa Z h0 a1 oS1) (pr2 : Fld Z h0 a1 oS1 "size" "I" (.int (1 : Int32))) (pr3 : Fld Z h0 a1 oS1 "elementData" oS3 (.ref ea)) (pr4 : Arv Z h0 ea ke (.object oS2) (10 : Int32) [q0_, q1_, q2_, .null, .null, .null, .null, .null, .null, .null] .null) (hq_ : q0_.isRef = true) :
    MetFree l oM5 (head1 (Jvm.Cond.code oM5 jdk_38_method_20_code 2 (some (.object oS2)) :: ws) ({ frames := 2, cells := 0, slots := 0, locals := 27 } : Room)) (fun a U => a = #[(.ref a1), (.int (0 : Int32))] ∧ Z.Warmed39 U.vm ∧ U.heap = h0) (fun _ _ _ _ _ => True) (fun _ U o U' => ∃ v L, o = .returned v ∧ Qrge_01 Z a1 ea ke q0_ q1_ q2_ h0 n0 v U'.heap L ∧ FrameEnd U o U' L ({ frames := 2, cells := 0, slots := 0, locals := 27 } : Room).cells ({ frames := 2, cells := 0, slots := 0, locals := 27 } : Room).slots) := by
  refine MetFree.of_bodySF (plainFor_of_name pn_34) hisR ?_
  intro p e s m args below meth c s₁ Bd hml0 hP0 hK
  obtain ⟨rfl, hZ, hh⟩ := hP0
  have hx := Bd.exec
  have hby := Bd.bytes
  have hml : c.maxLocals = 2 := hml0
  have hown : s.vm.findClass oS1 = some m.cls := findClass_of_methodNamed Bd.named
  have hnm := (name_of_methodNamed Bd.named Bd.method).1
  have X0 : Stand p l e ({ frames := 2, cells := 0, slots := 0, locals := 27 } : Room) s m #[(.ref a1), (.int (0 : Int32))] below meth c s₁ [] 0 0 := Stand.of_body Bd
  have e0 : s₁.heap = h0 := by rw [← hh, Bd.state]; rfl
  have N0 := Fr.nil n0
  refine own_fin (st' := s₁.setTop (mkF m 0 #[oR a1, oi 0] [])) (fun _ k => castTop (ef_rge_01 m a1 (0 : Int32)) k) (fun P hP => ?_)
  have lt_a1 : @LT.lt Nat _ a1 h0.size := pr1.lt
  have lt_ea : @LT.lt Nat _ ea h0.size := pr4.lt
  refine ow (oT s₁ m 1 #[oR a1, oi 0] [(.int (0 : Int32))]) (fun _ k => XS.iloadN X0.here hx rfl (hb hby d34_0) rfl k) ?_
  refine ow (oT s₁ m 2 #[oR a1, oi 0] [(.ref a1), (.int (0 : Int32))]) (fun _ k => XS.aloadN X0.here hx rfl (hb hby d34_1) rfl rfl k) ?_
  obtain ⟨T1, X1, e1, st1⟩ := getF X0 hx hZ hown (host := "") (Or.inl (own_hw hw 165)) Via.refl e0 pr2 (g := (mkF m 2 #[oR a1, oi 0] [(.ref a1), (.int (0 : Int32))])) rfl rfl (hb hby d34_2)
  refine ow (oT T1 m 5 #[oR a1, oi 0] [(.int (1 : Int32)), (.int (0 : Int32))]) (st1) ?_
  obtain ⟨_, _, ⟨T2, LC2, kC2, nC2⟩, -, X2, ⟨Lc2, hQ2, lq2, yq2, zq2⟩, st2⟩ := Jvm.LawKit.callS X1 hx (y := oM3) hown (mvT hZ (own_hw hw 204)) (mvT hZ (own_hw hw 205)) (mvT hZ (own_hw hw 101)) (mvT hZ (own_hw hw 206)) (by decide) (backOf (W := 0) (rcj_01 l Z a0 hw []  h0 n0 (by omega) ) hZ (own_hw hw 206) (own_hw hw 101) (by decide) (by decide)) (g := (mkF m 5 #[oR a1, oi 0] [(.int (1 : Int32)), (.int (0 : Int32))])) rfl hml.symm (argsL := [(.int (0 : Int32)), (.int (1 : Int32))]) (rest := []) (lenOf pd_9 rfl) rfl (Nat.le_of_eq rfl) (hb hby d34_5) (fun _ _ => ⟨rfl, e1, (by decide : 0 + 0 ≤ _), (by decide : 0 + 0 ≤ _)⟩)
  dsimp only [Pt.U, Pt.locs, Pt.cells, Pt.slots] at X2 lq2 yq2 zq2 st2 hQ2
  subst lq2 yq2 zq2
  obtain ⟨rfl, Nq2, eq2⟩ := hQ2
  have N2 := Fr.app N0 Nq2
  refine ow (oT T2 m 8 #[oR a1, oi 0] [(.int (0 : Int32))]) (fun t k => st2 t k) ?_
  refine ow (oT T2 m 9 #[oR a1, oi 0] []) (fun _ k => XS.pop X2.here hx rfl (hb hby d34_8) rfl rfl k) ?_
  refine ow (oT T2 m 10 #[oR a1, oi 0] [(.ref a1)]) (fun _ k => XS.aloadN X2.here hx rfl (hb hby d34_9) rfl rfl k) ?_
  refine ow (oT T2 m 11 #[oR a1, oi 0] [(.int (0 : Int32)), (.ref a1)]) (fun _ k => XS.iloadN X2.here hx rfl (hb hby d34_10) rfl k) ?_
  obtain ⟨cq3, kq3, q3a, q3b, q3c⟩ := isOf hZ eq2 pr1
  obtain ⟨_, _, ⟨T3, LC3, kC3, nC3⟩, -, X3, ⟨Lc3, hQ3, lq3, yq3, zq3⟩, st3⟩ := X2.virtualBack hx (y := oM4) (z := oM4) hown (mvT hZ (own_hw hw 211)) (mvT hZ (own_hw hw 212)) (notFace_of_selects (args := #[]) (mvT hZ (own_hw hw 214))) (mvT hZ (own_hw hw 214)) (mvT hZ (own_hw hw 213)) (by decide) (backOf (W := 0) (red_0 l Z a0 hw [] a1 ea ke q0_ q1_ q2_ h0 n0 (by omega) pr3 pr4 hq_) hZ (own_hw hw 215) (own_hw hw 46) (by decide) (by decide)) q3a q3c (g := (mkF m 11 #[oR a1, oi 0] [(.int (0 : Int32)), (.ref a1)])) rfl hml.symm (Steps.refl _) (argsL := [(.int (0 : Int32))]) (rest := []) (lenOf pd_14 rfl) rfl (Nat.le_of_eq rfl) (hb hby d34_11) (fun _ _ => ⟨rfl, eq2, (by decide : 0 + 0 ≤ _), (by decide : 0 + 0 ≤ _)⟩)
  dsimp only [Pt.U, Pt.locs, Pt.cells, Pt.slots] at X3 lq3 yq3 zq3 st3 hQ3
  subst lq3 yq3 zq3
  obtain ⟨rfl, Nq3, eq3⟩ := hQ3
  have N3 := Fr.app N2 Nq3
  refine ow (oT T3 m 14 #[oR a1, oi 0] [q0_]) (fun _ k => st3.trans k) ?_
  obtain ⟨fs, hr, hrun, hended, hW, hsame⟩ := X3.leave (v := some q0_) (fun h => by rw [Bd.returns] at h; cases h)
  refine ⟨_, _, ?_, hP _ _ hrun hended ⟨_, _, rfl, ?_, ⟨_, rfl⟩, hW, hsame.mono (by decide) (by decide)⟩⟩
  · exact retOut X3 hx Bd.returns (own_nar_ref ((by assumption))) (Or.inr (Or.inr (Or.inr (Or.inr ⟨rfl, rfl, ((by assumption))⟩)))) (hb hby d34_14) hr
  ·
   show Qrge_01 Z a1 ea ke q0_ q1_ q2_ h0 n0 _ T3.heap _
   rw [eq3]
   exact ⟨rfl, N3, rfl⟩
theorem ef_rge_02 (m : MethodId) (x0 : Addr) (x1 : Int32) : entryFrame m #[(.ref x0), (.int x1)] 2 = mkF m 0 #[.val (.ref x0), .val (.int x1)] [] := by first | (simp [entryFrame, mkF, argsToLocals, Value.category]; done) | rfl
def Qrge_02 (Z : State) (a1 : Addr) (ea : Addr) (ke : ClassId) (q0_ : Value) (q1_ : Value) (q2_ : Value) (h0 : Heap) (n0 : Nat) (v : Option Value) (h : Heap) (L : List Loc) : Prop := (v = some q0_) ∧ (Fr n0 L) ∧ (h = h0)
set_option maxRecDepth 65536 in
set_option maxHeartbeats 40000000 in
theorem rge_02 (l : Launch) (Z : State) (a0 : Array Value) (hw : ∀ d ∈ tables_1, d.before a0 Z = true) (ws : List Jvm.Cond) (a1 : Addr) (ea : Addr) (ke : ClassId) (q0_ : Value) (q1_ : Value) (q2_ : Value) (h0 : Heap) (n0 : Nat) (Z0 : n0 ≤ h0.size) (pr1 : Exa Z h0 a1 oS1) (pr2 : Fld Z h0 a1 oS1 "size" "I" (.int (2 : Int32))) (pr3 : Fld Z h0 a1 oS1 "elementData" oS3 (.ref ea)) (pr4 : Arv Z h0 ea ke (.object oS2) (10 : Int32) [q0_, q1_, q2_, .null, .null, .null, .null, .null, .null, .null] .null) (hq_ : q0_.isRef = true) :
    MetFree l oM5 (head1 (Jvm.Cond.code oM5 jdk_38_method_20_code 2 (some (.object oS2)) :: ws) ({ frames := 2, cells := 0, slots := 0, locals := 27 } : Room)) (fun a U => a = #[(.ref a1), (.int (0 : Int32))] ∧ Z.Warmed39 U.vm ∧ U.heap = h0) (fun _ _ _ _ _ => True) (fun _ U o U' => ∃ v L, o = .returned v ∧ Qrge_02 Z a1 ea ke q0_ q1_ q2_ h0 n0 v U'.heap L ∧ FrameEnd U o U' L ({ frames := 2, cells := 0, slots := 0, locals := 27 } : Room).cells ({ frames := 2, cells := 0, slots := 0, locals := 27 } : Room).slots) := by
  refine MetFree.of_bodySF (plainFor_of_name pn_34) hisR ?_
  intro p e s m args below meth c s₁ Bd hml0 hP0 hK
  obtain ⟨rfl, hZ, hh⟩ := hP0
  have hx := Bd.exec
  have hby := Bd.bytes
  have hml : c.maxLocals = 2 := hml0
  have hown : s.vm.findClass oS1 = some m.cls := findClass_of_methodNamed Bd.named
  have hnm := (name_of_methodNamed Bd.named Bd.method).1
  have X0 : Stand p l e ({ frames := 2, cells := 0, slots := 0, locals := 27 } : Room) s m #[(.ref a1), (.int (0 : Int32))] below meth c s₁ [] 0 0 := Stand.of_body Bd
  have e0 : s₁.heap = h0 := by rw [← hh, Bd.state]; rfl
  have N0 := Fr.nil n0
  refine own_fin (st' := s₁.setTop (mkF m 0 #[oR a1, oi 0] [])) (fun _ k => castTop (ef_rge_02 m a1 (0 : Int32)) k) (fun P hP => ?_)
  have lt_a1 : @LT.lt Nat _ a1 h0.size := pr1.lt
  have lt_ea : @LT.lt Nat _ ea h0.size := pr4.lt
  refine ow (oT s₁ m 1 #[oR a1, oi 0] [(.int (0 : Int32))]) (fun _ k => XS.iloadN X0.here hx rfl (hb hby d34_0) rfl k) ?_
  refine ow (oT s₁ m 2 #[oR a1, oi 0] [(.ref a1), (.int (0 : Int32))]) (fun _ k => XS.aloadN X0.here hx rfl (hb hby d34_1) rfl rfl k) ?_
  obtain ⟨T1, X1, e1, st1⟩ := getF X0 hx hZ hown (host := "") (Or.inl (own_hw hw 165)) Via.refl e0 pr2 (g := (mkF m 2 #[oR a1, oi 0] [(.ref a1), (.int (0 : Int32))])) rfl rfl (hb hby d34_2)
  refine ow (oT T1 m 5 #[oR a1, oi 0] [(.int (2 : Int32)), (.int (0 : Int32))]) (st1) ?_
  obtain ⟨_, _, ⟨T2, LC2, kC2, nC2⟩, -, X2, ⟨Lc2, hQ2, lq2, yq2, zq2⟩, st2⟩ := Jvm.LawKit.callS X1 hx (y := oM3) hown (mvT hZ (own_hw hw 204)) (mvT hZ (own_hw hw 205)) (mvT hZ (own_hw hw 101)) (mvT hZ (own_hw hw 206)) (by decide) (backOf (W := 0) (rcj_02 l Z a0 hw []  h0 n0 (by omega) ) hZ (own_hw hw 206) (own_hw hw 101) (by decide) (by decide)) (g := (mkF m 5 #[oR a1, oi 0] [(.int (2 : Int32)), (.int (0 : Int32))])) rfl hml.symm (argsL := [(.int (0 : Int32)), (.int (2 : Int32))]) (rest := []) (lenOf pd_9 rfl) rfl (Nat.le_of_eq rfl) (hb hby d34_5) (fun _ _ => ⟨rfl, e1, (by decide : 0 + 0 ≤ _), (by decide : 0 + 0 ≤ _)⟩)
  dsimp only [Pt.U, Pt.locs, Pt.cells, Pt.slots] at X2 lq2 yq2 zq2 st2 hQ2
  subst lq2 yq2 zq2
  obtain ⟨rfl, Nq2, eq2⟩ := hQ2
  have N2 := Fr.app N0 Nq2
  refine ow (oT T2 m 8 #[oR a1, oi 0] [(.int (0 : Int32))]) (fun t k => st2 t k) ?_
  refine ow (oT T2 m 9 #[oR a1, oi 0] []) (fun _ k => XS.pop X2.here hx rfl (hb hby d34_8) rfl rfl k) ?_
  refine ow (oT T2 m 10 #[oR a1, oi 0] [(.ref a1)]) (fun _ k => XS.aloadN X2.here hx rfl (hb hby d34_9) rfl rfl k) ?_
  refine ow (oT T2 m 11 #[oR a1, oi 0] [(.int (0 : Int32)), (.ref a1)]) (fun _ k => XS.iloadN X2.here hx rfl (hb hby d34_10) rfl k) ?_
  obtain ⟨cq3, kq3, q3a, q3b, q3c⟩ := isOf hZ eq2 pr1
  obtain ⟨_, _, ⟨T3, LC3, kC3, nC3⟩, -, X3, ⟨Lc3, hQ3, lq3, yq3, zq3⟩, st3⟩ := X2.virtualBack hx (y := oM4) (z := oM4) hown (mvT hZ (own_hw hw 211)) (mvT hZ (own_hw hw 212)) (notFace_of_selects (args := #[]) (mvT hZ (own_hw hw 214))) (mvT hZ (own_hw hw 214)) (mvT hZ (own_hw hw 213)) (by decide) (backOf (W := 0) (red_0 l Z a0 hw [] a1 ea ke q0_ q1_ q2_ h0 n0 (by omega) pr3 pr4 hq_) hZ (own_hw hw 215) (own_hw hw 46) (by decide) (by decide)) q3a q3c (g := (mkF m 11 #[oR a1, oi 0] [(.int (0 : Int32)), (.ref a1)])) rfl hml.symm (Steps.refl _) (argsL := [(.int (0 : Int32))]) (rest := []) (lenOf pd_14 rfl) rfl (Nat.le_of_eq rfl) (hb hby d34_11) (fun _ _ => ⟨rfl, eq2, (by decide : 0 + 0 ≤ _), (by decide : 0 + 0 ≤ _)⟩)
  dsimp only [Pt.U, Pt.locs, Pt.cells, Pt.slots] at X3 lq3 yq3 zq3 st3 hQ3
  subst lq3 yq3 zq3
  obtain ⟨rfl, Nq3, eq3⟩ := hQ3
  have N3 := Fr.app N2 Nq3
  refine ow (oT T3 m 14 #[oR a1, oi 0] [q0_]) (fun _ k => st3.trans k) ?_
  obtain ⟨fs, hr, hrun, hended, hW, hsame⟩ := X3.leave (v := some q0_) (fun h => by rw [Bd.returns] at h; cases h)
  refine ⟨_, _, ?_, hP _ _ hrun hended ⟨_, _, rfl, ?_, ⟨_, rfl⟩, hW, hsame.mono (by decide) (by decide)⟩⟩
  · exact retOut X3 hx Bd.returns (own_nar_ref ((by assumption))) (Or.inr (Or.inr (Or.inr (Or.inr ⟨rfl, rfl, ((by assumption))⟩)))) (hb hby d34_14) hr
  ·
   show Qrge_02 Z a1 ea ke q0_ q1_ q2_ h0 n0 _ T3.heap _
   rw [eq3]
   exact ⟨rfl, N3, rfl⟩
theorem ef_rge_03 (m : MethodId) (x0 : Addr) (x1 : Int32) : entryFrame m #[(.ref x0), (.int x1)] 2 = mkF m 0 #[.val (.ref x0), .val (.int x1)] [] := by first | (simp [entryFrame, mkF, argsToLocals, Value.category]; done) | rfl
def Qrge_03 (Z : State) (a1 : Addr) (ea : Addr) (ke : ClassId) (q0_ : Value) (q1_ : Value) (q2_ : Value) (h0 : Heap) (n0 : Nat) (v : Option Value) (h : Heap) (L : List Loc) : Prop := (v = some q0_) ∧ (Fr n0 L) ∧ (h = h0)
set_option maxRecDepth 65536 in
set_option maxHeartbeats 40000000 in
theorem rge_03 (l : Launch) (Z : State) (a0 : Array Value) (hw : ∀ d ∈ tables_1, d.before a0 Z = true) (ws : List Jvm.Cond) (a1 : Addr) (ea : Addr) (ke : ClassId) (q0_ : Value) (q1_ : Value) (q2_ : Value) (h0 : Heap) (n0 : Nat) (Z0 : n0 ≤ h0.size) (pr1 : Exa Z h0 a1 oS1) (pr2 : Fld Z h0 a1 oS1 "size" "I" (.int (3 : Int32))) (pr3 : Fld Z h0 a1 oS1 "elementData" oS3 (.ref ea)) (pr4 : Arv Z h0 ea ke (.object oS2) (10 : Int32) [q0_, q1_, q2_, .null, .null, .null, .null, .null, .null, .null] .null) (hq_ : q0_.isRef = true) :
    MetFree l oM5 (head1 (Jvm.Cond.code oM5 jdk_38_method_20_code 2 (some (.object oS2)) :: ws) ({ frames := 2, cells := 0, slots := 0, locals := 27 } : Room)) (fun a U => a = #[(.ref a1), (.int (0 : Int32))] ∧ Z.Warmed39 U.vm ∧ U.heap = h0) (fun _ _ _ _ _ => True) (fun _ U o U' => ∃ v L, o = .returned v ∧ Qrge_03 Z a1 ea ke q0_ q1_ q2_ h0 n0 v U'.heap L ∧ FrameEnd U o U' L ({ frames := 2, cells := 0, slots := 0, locals := 27 } : Room).cells ({ frames := 2, cells := 0, slots := 0, locals := 27 } : Room).slots) := by
  refine MetFree.of_bodySF (plainFor_of_name pn_34) hisR ?_
  intro p e s m args below meth c s₁ Bd hml0 hP0 hK
  obtain ⟨rfl, hZ, hh⟩ := hP0
  have hx := Bd.exec
  have hby := Bd.bytes
  have hml : c.maxLocals = 2 := hml0
  have hown : s.vm.findClass oS1 = some m.cls := findClass_of_methodNamed Bd.named
  have hnm := (name_of_methodNamed Bd.named Bd.method).1
  have X0 : Stand p l e ({ frames := 2, cells := 0, slots := 0, locals := 27 } : Room) s m #[(.ref a1), (.int (0 : Int32))] below meth c s₁ [] 0 0 := Stand.of_body Bd
  have e0 : s₁.heap = h0 := by rw [← hh, Bd.state]; rfl
  have N0 := Fr.nil n0
  refine own_fin (st' := s₁.setTop (mkF m 0 #[oR a1, oi 0] [])) (fun _ k => castTop (ef_rge_03 m a1 (0 : Int32)) k) (fun P hP => ?_)
  have lt_a1 : @LT.lt Nat _ a1 h0.size := pr1.lt
  have lt_ea : @LT.lt Nat _ ea h0.size := pr4.lt
  refine ow (oT s₁ m 1 #[oR a1, oi 0] [(.int (0 : Int32))]) (fun _ k => XS.iloadN X0.here hx rfl (hb hby d34_0) rfl k) ?_
  refine ow (oT s₁ m 2 #[oR a1, oi 0] [(.ref a1), (.int (0 : Int32))]) (fun _ k => XS.aloadN X0.here hx rfl (hb hby d34_1) rfl rfl k) ?_
  obtain ⟨T1, X1, e1, st1⟩ := getF X0 hx hZ hown (host := "") (Or.inl (own_hw hw 165)) Via.refl e0 pr2 (g := (mkF m 2 #[oR a1, oi 0] [(.ref a1), (.int (0 : Int32))])) rfl rfl (hb hby d34_2)
  refine ow (oT T1 m 5 #[oR a1, oi 0] [(.int (3 : Int32)), (.int (0 : Int32))]) (st1) ?_
  obtain ⟨_, _, ⟨T2, LC2, kC2, nC2⟩, -, X2, ⟨Lc2, hQ2, lq2, yq2, zq2⟩, st2⟩ := Jvm.LawKit.callS X1 hx (y := oM3) hown (mvT hZ (own_hw hw 204)) (mvT hZ (own_hw hw 205)) (mvT hZ (own_hw hw 101)) (mvT hZ (own_hw hw 206)) (by decide) (backOf (W := 0) (rcj_03 l Z a0 hw []  h0 n0 (by omega) ) hZ (own_hw hw 206) (own_hw hw 101) (by decide) (by decide)) (g := (mkF m 5 #[oR a1, oi 0] [(.int (3 : Int32)), (.int (0 : Int32))])) rfl hml.symm (argsL := [(.int (0 : Int32)), (.int (3 : Int32))]) (rest := []) (lenOf pd_9 rfl) rfl (Nat.le_of_eq rfl) (hb hby d34_5) (fun _ _ => ⟨rfl, e1, (by decide : 0 + 0 ≤ _), (by decide : 0 + 0 ≤ _)⟩)
  dsimp only [Pt.U, Pt.locs, Pt.cells, Pt.slots] at X2 lq2 yq2 zq2 st2 hQ2
  subst lq2 yq2 zq2
  obtain ⟨rfl, Nq2, eq2⟩ := hQ2
  have N2 := Fr.app N0 Nq2
  refine ow (oT T2 m 8 #[oR a1, oi 0] [(.int (0 : Int32))]) (fun t k => st2 t k) ?_
  refine ow (oT T2 m 9 #[oR a1, oi 0] []) (fun _ k => XS.pop X2.here hx rfl (hb hby d34_8) rfl rfl k) ?_
  refine ow (oT T2 m 10 #[oR a1, oi 0] [(.ref a1)]) (fun _ k => XS.aloadN X2.here hx rfl (hb hby d34_9) rfl rfl k) ?_
  refine ow (oT T2 m 11 #[oR a1, oi 0] [(.int (0 : Int32)), (.ref a1)]) (fun _ k => XS.iloadN X2.here hx rfl (hb hby d34_10) rfl k) ?_
  obtain ⟨cq3, kq3, q3a, q3b, q3c⟩ := isOf hZ eq2 pr1
  obtain ⟨_, _, ⟨T3, LC3, kC3, nC3⟩, -, X3, ⟨Lc3, hQ3, lq3, yq3, zq3⟩, st3⟩ := X2.virtualBack hx (y := oM4) (z := oM4) hown (mvT hZ (own_hw hw 211)) (mvT hZ (own_hw hw 212)) (notFace_of_selects (args := #[]) (mvT hZ (own_hw hw 214))) (mvT hZ (own_hw hw 214)) (mvT hZ (own_hw hw 213)) (by decide) (backOf (W := 0) (red_0 l Z a0 hw [] a1 ea ke q0_ q1_ q2_ h0 n0 (by omega) pr3 pr4 hq_) hZ (own_hw hw 215) (own_hw hw 46) (by decide) (by decide)) q3a q3c (g := (mkF m 11 #[oR a1, oi 0] [(.int (0 : Int32)), (.ref a1)])) rfl hml.symm (Steps.refl _) (argsL := [(.int (0 : Int32))]) (rest := []) (lenOf pd_14 rfl) rfl (Nat.le_of_eq rfl) (hb hby d34_11) (fun _ _ => ⟨rfl, eq2, (by decide : 0 + 0 ≤ _), (by decide : 0 + 0 ≤ _)⟩)
  dsimp only [Pt.U, Pt.locs, Pt.cells, Pt.slots] at X3 lq3 yq3 zq3 st3 hQ3
  subst lq3 yq3 zq3
  obtain ⟨rfl, Nq3, eq3⟩ := hQ3
  have N3 := Fr.app N2 Nq3
  refine ow (oT T3 m 14 #[oR a1, oi 0] [q0_]) (fun _ k => st3.trans k) ?_
  obtain ⟨fs, hr, hrun, hended, hW, hsame⟩ := X3.leave (v := some q0_) (fun h => by rw [Bd.returns] at h; cases h)
  refine ⟨_, _, ?_, hP _ _ hrun hended ⟨_, _, rfl, ?_, ⟨_, rfl⟩, hW, hsame.mono (by decide) (by decide)⟩⟩
  · exact retOut X3 hx Bd.returns (own_nar_ref ((by assumption))) (Or.inr (Or.inr (Or.inr (Or.inr ⟨rfl, rfl, ((by assumption))⟩)))) (hb hby d34_14) hr
  ·
   show Qrge_03 Z a1 ea ke q0_ q1_ q2_ h0 n0 _ T3.heap _
   rw [eq3]
   exact ⟨rfl, N3, rfl⟩
theorem ef_rci_12 (m : MethodId) (x0 : Int32) (x1 : Int32) : entryFrame m #[(.int x0), (.int x1), .null] 3 = mkF m 0 #[.val (.int x0), .val (.int x1), .val .null] [] := by first | (simp [entryFrame, mkF, argsToLocals, Value.category]; done) | rfl
def Qrci_12 (Z : State)  (h0 : Heap) (n0 : Nat) (v : Option Value) (h : Heap) (L : List Loc) : Prop := (v = some (.int (1 : Int32))) ∧ (Fr n0 L) ∧ (h = h0)
set_option maxRecDepth 65536 in
set_option maxHeartbeats 40000000 in
theorem rci_12 (l : Launch) (Z : State) (a0 : Array Value) (hw : ∀ d ∈ tables_1, d.before a0 Z = true) (ws : List Jvm.Cond)  (h0 : Heap) (n0 : Nat) (Z0 : n0 ≤ h0.size)  :
    MetFree l oM2 (head1 (Jvm.Cond.code oM2 jdk_41_method_11_code 3 (some .int) :: ws) ({ frames := 0, cells := 0, slots := 0, locals := 0 } : Room)) (fun a U => a = #[(.int (1 : Int32)), (.int (2 : Int32)), .null] ∧ Z.Warmed39 U.vm ∧ U.heap = h0) (fun _ _ _ _ _ => True) (fun _ U o U' => ∃ v L, o = .returned v ∧ Qrci_12 Z  h0 n0 v U'.heap L ∧ FrameEnd U o U' L ({ frames := 0, cells := 0, slots := 0, locals := 0 } : Room).cells ({ frames := 0, cells := 0, slots := 0, locals := 0 } : Room).slots) := by
  refine MetFree.of_bodySF (plainFor_of_name pn_36) hisR ?_
  intro p e s m args below meth c s₁ Bd hml0 hP0 hK
  obtain ⟨rfl, hZ, hh⟩ := hP0
  have hx := Bd.exec
  have hby := Bd.bytes
  have hml : c.maxLocals = 3 := hml0
  have hown : s.vm.findClass oS17 = some m.cls := findClass_of_methodNamed Bd.named
  have hnm := (name_of_methodNamed Bd.named Bd.method).1
  have X0 : Stand p l e ({ frames := 0, cells := 0, slots := 0, locals := 0 } : Room) s m #[(.int (1 : Int32)), (.int (2 : Int32)), .null] below meth c s₁ [] 0 0 := Stand.of_body Bd
  have e0 : s₁.heap = h0 := by rw [← hh, Bd.state]; rfl
  have N0 := Fr.nil n0
  refine own_fin (st' := s₁.setTop (mkF m 0 #[oi 1, oi 2, .val .null] [])) (fun _ k => castTop (ef_rci_12 m (1 : Int32) (2 : Int32)) k) (fun P hP => ?_)
  refine ow (oT s₁ m 1 #[oi 1, oi 2, .val .null] [(.int (1 : Int32))]) (fun _ k => XS.iloadN X0.here hx rfl (hb hby d36_0) rfl k) ?_
  have hc1 : ¬ ((1 : Int32) < (0 : Int32)) := by decide
  refine ow (oT s₁ m 4 #[oi 1, oi 2, .val .null] []) (fun _ k => XS.ifNo X0.here hx rfl (hb hby d36_1) rfl ((if0 _ _).trans (flt hc1).1) k) ?_
  refine ow (oT s₁ m 5 #[oi 1, oi 2, .val .null] [(.int (1 : Int32))]) (fun _ k => XS.iloadN X0.here hx rfl (hb hby d36_4) rfl k) ?_
  refine ow (oT s₁ m 6 #[oi 1, oi 2, .val .null] [(.int (2 : Int32)), (.int (1 : Int32))]) (fun _ k => XS.iloadN X0.here hx rfl (hb hby d36_5) rfl k) ?_
  have hc2 : (1 : Int32) < (2 : Int32) := by decide
  refine ow (oT s₁ m 16 #[oi 1, oi 2, .val .null] []) (fun _ k => XS.icmpYes X0.here hx rfl (pc0 := 6) (pc' := 16) rfl (hb hby d36_6) rfl (tlt hc2).1 (by decide) (by decide) k) ?_
  refine ow (oT s₁ m 17 #[oi 1, oi 2, .val .null] [(.int (1 : Int32))]) (fun _ k => XS.iloadN X0.here hx rfl (hb hby d36_16) rfl k) ?_
  obtain ⟨fs, hr, hrun, hended, hW, hsame⟩ := X0.leave (v := some (.int (1 : Int32))) (fun h => by rw [Bd.returns] at h; cases h)
  refine ⟨_, _, ?_, hP _ _ hrun hended ⟨_, _, rfl, ?_, ⟨_, rfl⟩, hW, hsame.mono (by decide) (by decide)⟩⟩
  · exact retOut X0 hx Bd.returns rfl (Or.inl ⟨rfl, Or.inl rfl, _, rfl⟩) (hb hby d36_17) hr
  ·
   show Qrci_12 Z  h0 n0 _ s₁.heap _
   rw [e0]
   exact ⟨rfl, N0, rfl⟩
theorem ef_rcj_12 (m : MethodId) (x0 : Int32) (x1 : Int32) : entryFrame m #[(.int x0), (.int x1)] 2 = mkF m 0 #[.val (.int x0), .val (.int x1)] [] := by first | (simp [entryFrame, mkF, argsToLocals, Value.category]; done) | rfl
def Qrcj_12 (Z : State)  (h0 : Heap) (n0 : Nat) (v : Option Value) (h : Heap) (L : List Loc) : Prop := (v = some (.int (1 : Int32))) ∧ (Fr n0 L) ∧ (h = h0)
set_option maxRecDepth 65536 in
set_option maxHeartbeats 40000000 in
theorem rcj_12 (l : Launch) (Z : State) (a0 : Array Value) (hw : ∀ d ∈ tables_1, d.before a0 Z = true) (ws : List Jvm.Cond)  (h0 : Heap) (n0 : Nat) (Z0 : n0 ≤ h0.size)  :
    MetFree l oM3 (head1 (Jvm.Cond.code oM3 jdk_31_method_17_code 2 (some .int) :: ws) ({ frames := 1, cells := 0, slots := 0, locals := 14 } : Room)) (fun a U => a = #[(.int (1 : Int32)), (.int (2 : Int32))] ∧ Z.Warmed39 U.vm ∧ U.heap = h0) (fun _ _ _ _ _ => True) (fun _ U o U' => ∃ v L, o = .returned v ∧ Qrcj_12 Z  h0 n0 v U'.heap L ∧ FrameEnd U o U' L ({ frames := 1, cells := 0, slots := 0, locals := 14 } : Room).cells ({ frames := 1, cells := 0, slots := 0, locals := 14 } : Room).slots) := by
  refine MetFree.of_bodySF (plainFor_of_name pn_35) hisR ?_
  intro p e s m args below meth c s₁ Bd hml0 hP0 hK
  obtain ⟨rfl, hZ, hh⟩ := hP0
  have hx := Bd.exec
  have hby := Bd.bytes
  have hml : c.maxLocals = 2 := hml0
  have hown : s.vm.findClass oS15 = some m.cls := findClass_of_methodNamed Bd.named
  have hnm := (name_of_methodNamed Bd.named Bd.method).1
  have X0 : Stand p l e ({ frames := 1, cells := 0, slots := 0, locals := 14 } : Room) s m #[(.int (1 : Int32)), (.int (2 : Int32))] below meth c s₁ [] 0 0 := Stand.of_body Bd
  have e0 : s₁.heap = h0 := by rw [← hh, Bd.state]; rfl
  have N0 := Fr.nil n0
  refine own_fin (st' := s₁.setTop (mkF m 0 #[oi 1, oi 2] [])) (fun _ k => castTop (ef_rcj_12 m (1 : Int32) (2 : Int32)) k) (fun P hP => ?_)
  refine ow (oT s₁ m 1 #[oi 1, oi 2] [(.int (1 : Int32))]) (fun _ k => XS.iloadN X0.here hx rfl (hb hby d35_0) rfl k) ?_
  refine ow (oT s₁ m 2 #[oi 1, oi 2] [(.int (2 : Int32)), (.int (1 : Int32))]) (fun _ k => XS.iloadN X0.here hx rfl (hb hby d35_1) rfl k) ?_
  refine ow (oT s₁ m 3 #[oi 1, oi 2] [.null, (.int (2 : Int32)), (.int (1 : Int32))]) (fun _ k => XS.aconstNull X0.here hx rfl (hb hby d35_2) k) ?_
  obtain ⟨_, _, ⟨T1, LC1, kC1, nC1⟩, -, X1, ⟨Lc1, hQ1, lq1, yq1, zq1⟩, st1⟩ := Jvm.LawKit.callS X0 hx (y := oM2) hown (mvT hZ (own_hw hw 207)) (mvT hZ (own_hw hw 208)) (mvT hZ (own_hw hw 209)) (mvT hZ (own_hw hw 210)) (by decide) (backOf (W := 0) (rci_12 l Z a0 hw []  h0 n0 (by omega) ) hZ (own_hw hw 210) (own_hw hw 209) (by decide) (by decide)) (g := (mkF m 3 #[oi 1, oi 2] [.null, (.int (2 : Int32)), (.int (1 : Int32))])) rfl hml.symm (argsL := [(.int (1 : Int32)), (.int (2 : Int32)), .null]) (rest := []) (lenOf pd_13 rfl) rfl (Nat.le_of_eq rfl) (hb hby d35_3) (fun _ _ => ⟨rfl, e0, (by decide : 0 + 0 ≤ _), (by decide : 0 + 0 ≤ _)⟩)
  dsimp only [Pt.U, Pt.locs, Pt.cells, Pt.slots] at X1 lq1 yq1 zq1 st1 hQ1
  subst lq1 yq1 zq1
  obtain ⟨rfl, Nq1, eq1⟩ := hQ1
  have N1 := Fr.app N0 Nq1
  refine ow (oT T1 m 6 #[oi 1, oi 2] [(.int (1 : Int32))]) (fun t k => st1 t k) ?_
  obtain ⟨fs, hr, hrun, hended, hW, hsame⟩ := X1.leave (v := some (.int (1 : Int32))) (fun h => by rw [Bd.returns] at h; cases h)
  refine ⟨_, _, ?_, hP _ _ hrun hended ⟨_, _, rfl, ?_, ⟨_, rfl⟩, hW, hsame.mono (by decide) (by decide)⟩⟩
  · exact retOut X1 hx Bd.returns rfl (Or.inl ⟨rfl, Or.inl rfl, _, rfl⟩) (hb hby d35_6) hr
  ·
   show Qrcj_12 Z  h0 n0 _ T1.heap _
   rw [eq1]
   exact ⟨rfl, N1, rfl⟩
theorem ef_rci_13 (m : MethodId) (x0 : Int32) (x1 : Int32) : entryFrame m #[(.int x0), (.int x1), .null] 3 = mkF m 0 #[.val (.int x0), .val (.int x1), .val .null] [] := by first | (simp [entryFrame, mkF, argsToLocals, Value.category]; done) | rfl
def Qrci_13 (Z : State)  (h0 : Heap) (n0 : Nat) (v : Option Value) (h : Heap) (L : List Loc) : Prop := (v = some (.int (1 : Int32))) ∧ (Fr n0 L) ∧ (h = h0)
set_option maxRecDepth 65536 in
set_option maxHeartbeats 40000000 in
theorem rci_13 (l : Launch) (Z : State) (a0 : Array Value) (hw : ∀ d ∈ tables_1, d.before a0 Z = true) (ws : List Jvm.Cond)  (h0 : Heap) (n0 : Nat) (Z0 : n0 ≤ h0.size)  :
    MetFree l oM2 (head1 (Jvm.Cond.code oM2 jdk_41_method_11_code 3 (some .int) :: ws) ({ frames := 0, cells := 0, slots := 0, locals := 0 } : Room)) (fun a U => a = #[(.int (1 : Int32)), (.int (3 : Int32)), .null] ∧ Z.Warmed39 U.vm ∧ U.heap = h0) (fun _ _ _ _ _ => True) (fun _ U o U' => ∃ v L, o = .returned v ∧ Qrci_13 Z  h0 n0 v U'.heap L ∧ FrameEnd U o U' L ({ frames := 0, cells := 0, slots := 0, locals := 0 } : Room).cells ({ frames := 0, cells := 0, slots := 0, locals := 0 } : Room).slots) := by
  refine MetFree.of_bodySF (plainFor_of_name pn_36) hisR ?_
  intro p e s m args below meth c s₁ Bd hml0 hP0 hK
  obtain ⟨rfl, hZ, hh⟩ := hP0
  have hx := Bd.exec
  have hby := Bd.bytes
  have hml : c.maxLocals = 3 := hml0
  have hown : s.vm.findClass oS17 = some m.cls := findClass_of_methodNamed Bd.named
  have hnm := (name_of_methodNamed Bd.named Bd.method).1
  have X0 : Stand p l e ({ frames := 0, cells := 0, slots := 0, locals := 0 } : Room) s m #[(.int (1 : Int32)), (.int (3 : Int32)), .null] below meth c s₁ [] 0 0 := Stand.of_body Bd
  have e0 : s₁.heap = h0 := by rw [← hh, Bd.state]; rfl
  have N0 := Fr.nil n0
  refine own_fin (st' := s₁.setTop (mkF m 0 #[oi 1, oi 3, .val .null] [])) (fun _ k => castTop (ef_rci_13 m (1 : Int32) (3 : Int32)) k) (fun P hP => ?_)
  refine ow (oT s₁ m 1 #[oi 1, oi 3, .val .null] [(.int (1 : Int32))]) (fun _ k => XS.iloadN X0.here hx rfl (hb hby d36_0) rfl k) ?_
  have hc1 : ¬ ((1 : Int32) < (0 : Int32)) := by decide
  refine ow (oT s₁ m 4 #[oi 1, oi 3, .val .null] []) (fun _ k => XS.ifNo X0.here hx rfl (hb hby d36_1) rfl ((if0 _ _).trans (flt hc1).1) k) ?_
  refine ow (oT s₁ m 5 #[oi 1, oi 3, .val .null] [(.int (1 : Int32))]) (fun _ k => XS.iloadN X0.here hx rfl (hb hby d36_4) rfl k) ?_
  refine ow (oT s₁ m 6 #[oi 1, oi 3, .val .null] [(.int (3 : Int32)), (.int (1 : Int32))]) (fun _ k => XS.iloadN X0.here hx rfl (hb hby d36_5) rfl k) ?_
  have hc2 : (1 : Int32) < (3 : Int32) := by decide
  refine ow (oT s₁ m 16 #[oi 1, oi 3, .val .null] []) (fun _ k => XS.icmpYes X0.here hx rfl (pc0 := 6) (pc' := 16) rfl (hb hby d36_6) rfl (tlt hc2).1 (by decide) (by decide) k) ?_
  refine ow (oT s₁ m 17 #[oi 1, oi 3, .val .null] [(.int (1 : Int32))]) (fun _ k => XS.iloadN X0.here hx rfl (hb hby d36_16) rfl k) ?_
  obtain ⟨fs, hr, hrun, hended, hW, hsame⟩ := X0.leave (v := some (.int (1 : Int32))) (fun h => by rw [Bd.returns] at h; cases h)
  refine ⟨_, _, ?_, hP _ _ hrun hended ⟨_, _, rfl, ?_, ⟨_, rfl⟩, hW, hsame.mono (by decide) (by decide)⟩⟩
  · exact retOut X0 hx Bd.returns rfl (Or.inl ⟨rfl, Or.inl rfl, _, rfl⟩) (hb hby d36_17) hr
  ·
   show Qrci_13 Z  h0 n0 _ s₁.heap _
   rw [e0]
   exact ⟨rfl, N0, rfl⟩
theorem ef_rcj_13 (m : MethodId) (x0 : Int32) (x1 : Int32) : entryFrame m #[(.int x0), (.int x1)] 2 = mkF m 0 #[.val (.int x0), .val (.int x1)] [] := by first | (simp [entryFrame, mkF, argsToLocals, Value.category]; done) | rfl
def Qrcj_13 (Z : State)  (h0 : Heap) (n0 : Nat) (v : Option Value) (h : Heap) (L : List Loc) : Prop := (v = some (.int (1 : Int32))) ∧ (Fr n0 L) ∧ (h = h0)
set_option maxRecDepth 65536 in
set_option maxHeartbeats 40000000 in
theorem rcj_13 (l : Launch) (Z : State) (a0 : Array Value) (hw : ∀ d ∈ tables_1, d.before a0 Z = true) (ws : List Jvm.Cond)  (h0 : Heap) (n0 : Nat) (Z0 : n0 ≤ h0.size)  :
    MetFree l oM3 (head1 (Jvm.Cond.code oM3 jdk_31_method_17_code 2 (some .int) :: ws) ({ frames := 1, cells := 0, slots := 0, locals := 14 } : Room)) (fun a U => a = #[(.int (1 : Int32)), (.int (3 : Int32))] ∧ Z.Warmed39 U.vm ∧ U.heap = h0) (fun _ _ _ _ _ => True) (fun _ U o U' => ∃ v L, o = .returned v ∧ Qrcj_13 Z  h0 n0 v U'.heap L ∧ FrameEnd U o U' L ({ frames := 1, cells := 0, slots := 0, locals := 14 } : Room).cells ({ frames := 1, cells := 0, slots := 0, locals := 14 } : Room).slots) := by
  refine MetFree.of_bodySF (plainFor_of_name pn_35) hisR ?_
  intro p e s m args below meth c s₁ Bd hml0 hP0 hK
  obtain ⟨rfl, hZ, hh⟩ := hP0
  have hx := Bd.exec
  have hby := Bd.bytes
  have hml : c.maxLocals = 2 := hml0
  have hown : s.vm.findClass oS15 = some m.cls := findClass_of_methodNamed Bd.named
  have hnm := (name_of_methodNamed Bd.named Bd.method).1
  have X0 : Stand p l e ({ frames := 1, cells := 0, slots := 0, locals := 14 } : Room) s m #[(.int (1 : Int32)), (.int (3 : Int32))] below meth c s₁ [] 0 0 := Stand.of_body Bd
  have e0 : s₁.heap = h0 := by rw [← hh, Bd.state]; rfl
  have N0 := Fr.nil n0
  refine own_fin (st' := s₁.setTop (mkF m 0 #[oi 1, oi 3] [])) (fun _ k => castTop (ef_rcj_13 m (1 : Int32) (3 : Int32)) k) (fun P hP => ?_)
  refine ow (oT s₁ m 1 #[oi 1, oi 3] [(.int (1 : Int32))]) (fun _ k => XS.iloadN X0.here hx rfl (hb hby d35_0) rfl k) ?_
  refine ow (oT s₁ m 2 #[oi 1, oi 3] [(.int (3 : Int32)), (.int (1 : Int32))]) (fun _ k => XS.iloadN X0.here hx rfl (hb hby d35_1) rfl k) ?_
  refine ow (oT s₁ m 3 #[oi 1, oi 3] [.null, (.int (3 : Int32)), (.int (1 : Int32))]) (fun _ k => XS.aconstNull X0.here hx rfl (hb hby d35_2) k) ?_
  obtain ⟨_, _, ⟨T1, LC1, kC1, nC1⟩, -, X1, ⟨Lc1, hQ1, lq1, yq1, zq1⟩, st1⟩ := Jvm.LawKit.callS X0 hx (y := oM2) hown (mvT hZ (own_hw hw 207)) (mvT hZ (own_hw hw 208)) (mvT hZ (own_hw hw 209)) (mvT hZ (own_hw hw 210)) (by decide) (backOf (W := 0) (rci_13 l Z a0 hw []  h0 n0 (by omega) ) hZ (own_hw hw 210) (own_hw hw 209) (by decide) (by decide)) (g := (mkF m 3 #[oi 1, oi 3] [.null, (.int (3 : Int32)), (.int (1 : Int32))])) rfl hml.symm (argsL := [(.int (1 : Int32)), (.int (3 : Int32)), .null]) (rest := []) (lenOf pd_13 rfl) rfl (Nat.le_of_eq rfl) (hb hby d35_3) (fun _ _ => ⟨rfl, e0, (by decide : 0 + 0 ≤ _), (by decide : 0 + 0 ≤ _)⟩)
  dsimp only [Pt.U, Pt.locs, Pt.cells, Pt.slots] at X1 lq1 yq1 zq1 st1 hQ1
  subst lq1 yq1 zq1
  obtain ⟨rfl, Nq1, eq1⟩ := hQ1
  have N1 := Fr.app N0 Nq1
  refine ow (oT T1 m 6 #[oi 1, oi 3] [(.int (1 : Int32))]) (fun t k => st1 t k) ?_
  obtain ⟨fs, hr, hrun, hended, hW, hsame⟩ := X1.leave (v := some (.int (1 : Int32))) (fun h => by rw [Bd.returns] at h; cases h)
  refine ⟨_, _, ?_, hP _ _ hrun hended ⟨_, _, rfl, ?_, ⟨_, rfl⟩, hW, hsame.mono (by decide) (by decide)⟩⟩
  · exact retOut X1 hx Bd.returns rfl (Or.inl ⟨rfl, Or.inl rfl, _, rfl⟩) (hb hby d35_6) hr
  ·
   show Qrcj_13 Z  h0 n0 _ T1.heap _
   rw [eq1]
   exact ⟨rfl, N1, rfl⟩
theorem ef_red_1 (m : MethodId) (x0 : Addr) (x1 : Int32) : entryFrame m #[(.ref x0), (.int x1)] 2 = mkF m 0 #[.val (.ref x0), .val (.int x1)] [] := by first | (simp [entryFrame, mkF, argsToLocals, Value.category]; done) | rfl
def Qred_1 (Z : State) (a1 : Addr) (ea : Addr) (ke : ClassId) (q0_ : Value) (q1_ : Value) (q2_ : Value) (h0 : Heap) (n0 : Nat) (v : Option Value) (h : Heap) (L : List Loc) : Prop := (v = some q1_) ∧ (Fr n0 L) ∧ (h = h0)
set_option maxRecDepth 65536 in
set_option maxHeartbeats 40000000 in
theorem red_1 (l : Launch) (Z : State) (a0 : Array Value) (hw : ∀ d ∈ tables_1, d.before a0 Z = true) (ws : List Jvm.Cond) (a1 : Addr) (ea : Addr) (ke : ClassId) (q0_ : Value) (q1_ : Value) (q2_ : Value) (h0 : Heap) (n0 : Nat) (Z0 : n0 ≤ h0.size) (pr1 : Fld Z h0 a1 oS1 "elementData" oS3 (.ref ea)) (pr2 : Arv Z h0 ea ke (.object oS2) (10 : Int32) [q0_, q1_, q2_, .null, .null, .null, .null, .null, .null, .null] .null) (hq_ : q1_.isRef = true) :
    MetFree l oM4 (head1 (Jvm.Cond.code oM4 jdk_38_method_18_code 2 (some (.object oS2)) :: ws) ({ frames := 0, cells := 0, slots := 0, locals := 0 } : Room)) (fun a U => a = #[(.ref a1), (.int (1 : Int32))] ∧ Z.Warmed39 U.vm ∧ U.heap = h0) (fun _ _ _ _ _ => True) (fun _ U o U' => ∃ v L, o = .returned v ∧ Qred_1 Z a1 ea ke q0_ q1_ q2_ h0 n0 v U'.heap L ∧ FrameEnd U o U' L ({ frames := 0, cells := 0, slots := 0, locals := 0 } : Room).cells ({ frames := 0, cells := 0, slots := 0, locals := 0 } : Room).slots) := by
  refine MetFree.of_bodySF (plainFor_of_name pn_37) hisR ?_
  intro p e s m args below meth c s₁ Bd hml0 hP0 hK
  obtain ⟨rfl, hZ, hh⟩ := hP0
  have hx := Bd.exec
  have hby := Bd.bytes
  have hml : c.maxLocals = 2 := hml0
  have hown : s.vm.findClass oS1 = some m.cls := findClass_of_methodNamed Bd.named
  have hnm := (name_of_methodNamed Bd.named Bd.method).1
  have X0 : Stand p l e ({ frames := 0, cells := 0, slots := 0, locals := 0 } : Room) s m #[(.ref a1), (.int (1 : Int32))] below meth c s₁ [] 0 0 := Stand.of_body Bd
  have e0 : s₁.heap = h0 := by rw [← hh, Bd.state]; rfl
  have N0 := Fr.nil n0
  refine own_fin (st' := s₁.setTop (mkF m 0 #[oR a1, oi 1] [])) (fun _ k => castTop (ef_red_1 m a1 (1 : Int32)) k) (fun P hP => ?_)
  have lt_a1 : @LT.lt Nat _ a1 h0.size := pr1.lt
  have lt_ea : @LT.lt Nat _ ea h0.size := pr2.lt
  refine ow (oT s₁ m 1 #[oR a1, oi 1] [(.ref a1)]) (fun _ k => XS.aloadN X0.here hx rfl (hb hby d37_0) rfl rfl k) ?_
  obtain ⟨T1, X1, e1, st1⟩ := getF X0 hx hZ hown (host := "") (Or.inl (own_hw hw 66)) Via.refl e0 pr1 (g := (mkF m 1 #[oR a1, oi 1] [(.ref a1)])) rfl rfl (hb hby d37_1)
  refine ow (oT T1 m 4 #[oR a1, oi 1] [(.ref ea)]) (st1) ?_
  refine ow (oT T1 m 5 #[oR a1, oi 1] [(.int (1 : Int32)), (.ref ea)]) (fun _ k => XS.iloadN X1.here hx rfl (hb hby d37_4) rfl k) ?_
  obtain ⟨cl2, Ar2, -, S2, M2, H2, -⟩ := id pr2
  have hin2 : ¬ ((1 : Int32) < 0 ∨ cl2.slots.size ≤ ((1 : Int32)).toNatClampNeg) := (inb_of S2 ⟨by decide, by decide⟩)
  have hat2 : cl2.slots[((1 : Int32)).toNatClampNeg]? = some q1_ := (H2.at hin2 rfl)
  refine ow (oT T1 m 6 #[oR a1, oi 1] [q1_]) (X1.aaload hx (j := (1 : Int32)) (v := q1_) (by rw [e1]; exact Ar2.1) (State.isArrayOf_alike hZ.alike Ar2.2.1) rfl Ar2.2.2 hin2 hat2 (g := (mkF m 5 #[oR a1, oi 1] [(.int (1 : Int32)), (.ref ea)])) rfl rfl (hb hby d37_5)) ?_
  obtain ⟨fs, hr, hrun, hended, hW, hsame⟩ := X1.leave (v := some q1_) (fun h => by rw [Bd.returns] at h; cases h)
  refine ⟨_, _, ?_, hP _ _ hrun hended ⟨_, _, rfl, ?_, ⟨_, rfl⟩, hW, hsame.mono (by decide) (by decide)⟩⟩
  · exact retOut X1 hx Bd.returns (own_nar_ref hq_) (Or.inr (Or.inr (Or.inr (Or.inr ⟨rfl, rfl, hq_⟩)))) (hb hby d37_6) hr
  ·
   show Qred_1 Z a1 ea ke q0_ q1_ q2_ h0 n0 _ T1.heap _
   rw [e1]
   exact ⟨rfl, N0, rfl⟩
theorem ef_rge_12 (m : MethodId) (x0 : Addr) (x1 : Int32) : entryFrame m #[(.ref x0), (.int x1)] 2 = mkF m 0 #[.val (.ref x0), .val (.int x1)] [] := by first | (simp [entryFrame, mkF, argsToLocals, Value.category]; done) | rfl
def Qrge_12 (Z : State) (a1 : Addr) (ea : Addr) (ke : ClassId) (q0_ : Value) (q1_ : Value) (q2_ : Value) (h0 : Heap) (n0 : Nat) (v : Option Value) (h : Heap) (L : List Loc) : Prop := (v = some q1_) ∧ (Fr n0 L) ∧ (h = h0)
set_option maxRecDepth 65536 in
set_option maxHeartbeats 40000000 in
theorem rge_12 (l : Launch) (Z : State) (a0 : Array Value) (hw : ∀ d ∈ tables_1, d.before a0 Z = true) (ws : List Jvm.Cond) (a1 : Addr) (ea : Addr) (ke : ClassId) (q0_ : Value) (q1_ : Value) (q2_ : Value) (h0 : Heap) (n0 : Nat) (Z0 : n0 ≤ h0.size) (pr1 : Exa Z h0 a1 oS1) (pr2 : Fld Z h0 a1 oS1 "size" "I" (.int (2 : Int32))) (pr3 : Fld Z h0 a1 oS1 "elementData" oS3 (.ref ea)) (pr4 : Arv Z h0 ea ke (.object oS2) (10 : Int32) [q0_, q1_, q2_, .null, .null, .null, .null, .null, .null, .null] .null) (hq_ : q1_.isRef = true) :
    MetFree l oM5 (head1 (Jvm.Cond.code oM5 jdk_38_method_20_code 2 (some (.object oS2)) :: ws) ({ frames := 2, cells := 0, slots := 0, locals := 27 } : Room)) (fun a U => a = #[(.ref a1), (.int (1 : Int32))] ∧ Z.Warmed39 U.vm ∧ U.heap = h0) (fun _ _ _ _ _ => True) (fun _ U o U' => ∃ v L, o = .returned v ∧ Qrge_12 Z a1 ea ke q0_ q1_ q2_ h0 n0 v U'.heap L ∧ FrameEnd U o U' L ({ frames := 2, cells := 0, slots := 0, locals := 27 } : Room).cells ({ frames := 2, cells := 0, slots := 0, locals := 27 } : Room).slots) := by
  refine MetFree.of_bodySF (plainFor_of_name pn_34) hisR ?_
  intro p e s m args below meth c s₁ Bd hml0 hP0 hK
  obtain ⟨rfl, hZ, hh⟩ := hP0
  have hx := Bd.exec
  have hby := Bd.bytes
  have hml : c.maxLocals = 2 := hml0
  have hown : s.vm.findClass oS1 = some m.cls := findClass_of_methodNamed Bd.named
  have hnm := (name_of_methodNamed Bd.named Bd.method).1
  have X0 : Stand p l e ({ frames := 2, cells := 0, slots := 0, locals := 27 } : Room) s m #[(.ref a1), (.int (1 : Int32))] below meth c s₁ [] 0 0 := Stand.of_body Bd
  have e0 : s₁.heap = h0 := by rw [← hh, Bd.state]; rfl
  have N0 := Fr.nil n0
  refine own_fin (st' := s₁.setTop (mkF m 0 #[oR a1, oi 1] [])) (fun _ k => castTop (ef_rge_12 m a1 (1 : Int32)) k) (fun P hP => ?_)
  have lt_a1 : @LT.lt Nat _ a1 h0.size := pr1.lt
  have lt_ea : @LT.lt Nat _ ea h0.size := pr4.lt
  refine ow (oT s₁ m 1 #[oR a1, oi 1] [(.int (1 : Int32))]) (fun _ k => XS.iloadN X0.here hx rfl (hb hby d34_0) rfl k) ?_
  refine ow (oT s₁ m 2 #[oR a1, oi 1] [(.ref a1), (.int (1 : Int32))]) (fun _ k => XS.aloadN X0.here hx rfl (hb hby d34_1) rfl rfl k) ?_
  obtain ⟨T1, X1, e1, st1⟩ := getF X0 hx hZ hown (host := "") (Or.inl (own_hw hw 165)) Via.refl e0 pr2 (g := (mkF m 2 #[oR a1, oi 1] [(.ref a1), (.int (1 : Int32))])) rfl rfl (hb hby d34_2)
  refine ow (oT T1 m 5 #[oR a1, oi 1] [(.int (2 : Int32)), (.int (1 : Int32))]) (st1) ?_
  obtain ⟨_, _, ⟨T2, LC2, kC2, nC2⟩, -, X2, ⟨Lc2, hQ2, lq2, yq2, zq2⟩, st2⟩ := Jvm.LawKit.callS X1 hx (y := oM3) hown (mvT hZ (own_hw hw 204)) (mvT hZ (own_hw hw 205)) (mvT hZ (own_hw hw 101)) (mvT hZ (own_hw hw 206)) (by decide) (backOf (W := 0) (rcj_12 l Z a0 hw []  h0 n0 (by omega) ) hZ (own_hw hw 206) (own_hw hw 101) (by decide) (by decide)) (g := (mkF m 5 #[oR a1, oi 1] [(.int (2 : Int32)), (.int (1 : Int32))])) rfl hml.symm (argsL := [(.int (1 : Int32)), (.int (2 : Int32))]) (rest := []) (lenOf pd_9 rfl) rfl (Nat.le_of_eq rfl) (hb hby d34_5) (fun _ _ => ⟨rfl, e1, (by decide : 0 + 0 ≤ _), (by decide : 0 + 0 ≤ _)⟩)
  dsimp only [Pt.U, Pt.locs, Pt.cells, Pt.slots] at X2 lq2 yq2 zq2 st2 hQ2
  subst lq2 yq2 zq2
  obtain ⟨rfl, Nq2, eq2⟩ := hQ2
  have N2 := Fr.app N0 Nq2
  refine ow (oT T2 m 8 #[oR a1, oi 1] [(.int (1 : Int32))]) (fun t k => st2 t k) ?_
  refine ow (oT T2 m 9 #[oR a1, oi 1] []) (fun _ k => XS.pop X2.here hx rfl (hb hby d34_8) rfl rfl k) ?_
  refine ow (oT T2 m 10 #[oR a1, oi 1] [(.ref a1)]) (fun _ k => XS.aloadN X2.here hx rfl (hb hby d34_9) rfl rfl k) ?_
  refine ow (oT T2 m 11 #[oR a1, oi 1] [(.int (1 : Int32)), (.ref a1)]) (fun _ k => XS.iloadN X2.here hx rfl (hb hby d34_10) rfl k) ?_
  obtain ⟨cq3, kq3, q3a, q3b, q3c⟩ := isOf hZ eq2 pr1
  obtain ⟨_, _, ⟨T3, LC3, kC3, nC3⟩, -, X3, ⟨Lc3, hQ3, lq3, yq3, zq3⟩, st3⟩ := X2.virtualBack hx (y := oM4) (z := oM4) hown (mvT hZ (own_hw hw 211)) (mvT hZ (own_hw hw 212)) (notFace_of_selects (args := #[]) (mvT hZ (own_hw hw 214))) (mvT hZ (own_hw hw 214)) (mvT hZ (own_hw hw 213)) (by decide) (backOf (W := 0) (red_1 l Z a0 hw [] a1 ea ke q0_ q1_ q2_ h0 n0 (by omega) pr3 pr4 hq_) hZ (own_hw hw 215) (own_hw hw 46) (by decide) (by decide)) q3a q3c (g := (mkF m 11 #[oR a1, oi 1] [(.int (1 : Int32)), (.ref a1)])) rfl hml.symm (Steps.refl _) (argsL := [(.int (1 : Int32))]) (rest := []) (lenOf pd_14 rfl) rfl (Nat.le_of_eq rfl) (hb hby d34_11) (fun _ _ => ⟨rfl, eq2, (by decide : 0 + 0 ≤ _), (by decide : 0 + 0 ≤ _)⟩)
  dsimp only [Pt.U, Pt.locs, Pt.cells, Pt.slots] at X3 lq3 yq3 zq3 st3 hQ3
  subst lq3 yq3 zq3
  obtain ⟨rfl, Nq3, eq3⟩ := hQ3
  have N3 := Fr.app N2 Nq3
  refine ow (oT T3 m 14 #[oR a1, oi 1] [q1_]) (fun _ k => st3.trans k) ?_
  obtain ⟨fs, hr, hrun, hended, hW, hsame⟩ := X3.leave (v := some q1_) (fun h => by rw [Bd.returns] at h; cases h)
  refine ⟨_, _, ?_, hP _ _ hrun hended ⟨_, _, rfl, ?_, ⟨_, rfl⟩, hW, hsame.mono (by decide) (by decide)⟩⟩
  · exact retOut X3 hx Bd.returns (own_nar_ref ((by assumption))) (Or.inr (Or.inr (Or.inr (Or.inr ⟨rfl, rfl, ((by assumption))⟩)))) (hb hby d34_14) hr
  ·
   show Qrge_12 Z a1 ea ke q0_ q1_ q2_ h0 n0 _ T3.heap _
   rw [eq3]
   exact ⟨rfl, N3, rfl⟩
theorem ef_rge_13 (m : MethodId) (x0 : Addr) (x1 : Int32) : entryFrame m #[(.ref x0), (.int x1)] 2 = mkF m 0 #[.val (.ref x0), .val (.int x1)] [] := by first | (simp [entryFrame, mkF, argsToLocals, Value.category]; done) | rfl
def Qrge_13 (Z : State) (a1 : Addr) (ea : Addr) (ke : ClassId) (q0_ : Value) (q1_ : Value) (q2_ : Value) (h0 : Heap) (n0 : Nat) (v : Option Value) (h : Heap) (L : List Loc) : Prop := (v = some q1_) ∧ (Fr n0 L) ∧ (h = h0)
set_option maxRecDepth 65536 in
set_option maxHeartbeats 40000000 in
theorem rge_13 (l : Launch) (Z : State) (a0 : Array Value) (hw : ∀ d ∈ tables_1, d.before a0 Z = true) (ws : List Jvm.Cond) (a1 : Addr) (ea : Addr) (ke : ClassId) (q0_ : Value) (q1_ : Value) (q2_ : Value) (h0 : Heap) (n0 : Nat) (Z0 : n0 ≤ h0.size) (pr1 : Exa Z h0 a1 oS1) (pr2 : Fld Z h0 a1 oS1 "size" "I" (.int (3 : Int32))) (pr3 : Fld Z h0 a1 oS1 "elementData" oS3 (.ref ea)) (pr4 : Arv Z h0 ea ke (.object oS2) (10 : Int32) [q0_, q1_, q2_, .null, .null, .null, .null, .null, .null, .null] .null) (hq_ : q1_.isRef = true) :
    MetFree l oM5 (head1 (Jvm.Cond.code oM5 jdk_38_method_20_code 2 (some (.object oS2)) :: ws) ({ frames := 2, cells := 0, slots := 0, locals := 27 } : Room)) (fun a U => a = #[(.ref a1), (.int (1 : Int32))] ∧ Z.Warmed39 U.vm ∧ U.heap = h0) (fun _ _ _ _ _ => True) (fun _ U o U' => ∃ v L, o = .returned v ∧ Qrge_13 Z a1 ea ke q0_ q1_ q2_ h0 n0 v U'.heap L ∧ FrameEnd U o U' L ({ frames := 2, cells := 0, slots := 0, locals := 27 } : Room).cells ({ frames := 2, cells := 0, slots := 0, locals := 27 } : Room).slots) := by
  refine MetFree.of_bodySF (plainFor_of_name pn_34) hisR ?_
  intro p e s m args below meth c s₁ Bd hml0 hP0 hK
  obtain ⟨rfl, hZ, hh⟩ := hP0
  have hx := Bd.exec
  have hby := Bd.bytes
  have hml : c.maxLocals = 2 := hml0
  have hown : s.vm.findClass oS1 = some m.cls := findClass_of_methodNamed Bd.named
  have hnm := (name_of_methodNamed Bd.named Bd.method).1
  have X0 : Stand p l e ({ frames := 2, cells := 0, slots := 0, locals := 27 } : Room) s m #[(.ref a1), (.int (1 : Int32))] below meth c s₁ [] 0 0 := Stand.of_body Bd
  have e0 : s₁.heap = h0 := by rw [← hh, Bd.state]; rfl
  have N0 := Fr.nil n0
  refine own_fin (st' := s₁.setTop (mkF m 0 #[oR a1, oi 1] [])) (fun _ k => castTop (ef_rge_13 m a1 (1 : Int32)) k) (fun P hP => ?_)
  have lt_a1 : @LT.lt Nat _ a1 h0.size := pr1.lt
  have lt_ea : @LT.lt Nat _ ea h0.size := pr4.lt
  refine ow (oT s₁ m 1 #[oR a1, oi 1] [(.int (1 : Int32))]) (fun _ k => XS.iloadN X0.here hx rfl (hb hby d34_0) rfl k) ?_
  refine ow (oT s₁ m 2 #[oR a1, oi 1] [(.ref a1), (.int (1 : Int32))]) (fun _ k => XS.aloadN X0.here hx rfl (hb hby d34_1) rfl rfl k) ?_
  obtain ⟨T1, X1, e1, st1⟩ := getF X0 hx hZ hown (host := "") (Or.inl (own_hw hw 165)) Via.refl e0 pr2 (g := (mkF m 2 #[oR a1, oi 1] [(.ref a1), (.int (1 : Int32))])) rfl rfl (hb hby d34_2)
  refine ow (oT T1 m 5 #[oR a1, oi 1] [(.int (3 : Int32)), (.int (1 : Int32))]) (st1) ?_
  obtain ⟨_, _, ⟨T2, LC2, kC2, nC2⟩, -, X2, ⟨Lc2, hQ2, lq2, yq2, zq2⟩, st2⟩ := Jvm.LawKit.callS X1 hx (y := oM3) hown (mvT hZ (own_hw hw 204)) (mvT hZ (own_hw hw 205)) (mvT hZ (own_hw hw 101)) (mvT hZ (own_hw hw 206)) (by decide) (backOf (W := 0) (rcj_13 l Z a0 hw []  h0 n0 (by omega) ) hZ (own_hw hw 206) (own_hw hw 101) (by decide) (by decide)) (g := (mkF m 5 #[oR a1, oi 1] [(.int (3 : Int32)), (.int (1 : Int32))])) rfl hml.symm (argsL := [(.int (1 : Int32)), (.int (3 : Int32))]) (rest := []) (lenOf pd_9 rfl) rfl (Nat.le_of_eq rfl) (hb hby d34_5) (fun _ _ => ⟨rfl, e1, (by decide : 0 + 0 ≤ _), (by decide : 0 + 0 ≤ _)⟩)
  dsimp only [Pt.U, Pt.locs, Pt.cells, Pt.slots] at X2 lq2 yq2 zq2 st2 hQ2
  subst lq2 yq2 zq2
  obtain ⟨rfl, Nq2, eq2⟩ := hQ2
  have N2 := Fr.app N0 Nq2
  refine ow (oT T2 m 8 #[oR a1, oi 1] [(.int (1 : Int32))]) (fun t k => st2 t k) ?_
  refine ow (oT T2 m 9 #[oR a1, oi 1] []) (fun _ k => XS.pop X2.here hx rfl (hb hby d34_8) rfl rfl k) ?_
  refine ow (oT T2 m 10 #[oR a1, oi 1] [(.ref a1)]) (fun _ k => XS.aloadN X2.here hx rfl (hb hby d34_9) rfl rfl k) ?_
  refine ow (oT T2 m 11 #[oR a1, oi 1] [(.int (1 : Int32)), (.ref a1)]) (fun _ k => XS.iloadN X2.here hx rfl (hb hby d34_10) rfl k) ?_
  obtain ⟨cq3, kq3, q3a, q3b, q3c⟩ := isOf hZ eq2 pr1
  obtain ⟨_, _, ⟨T3, LC3, kC3, nC3⟩, -, X3, ⟨Lc3, hQ3, lq3, yq3, zq3⟩, st3⟩ := X2.virtualBack hx (y := oM4) (z := oM4) hown (mvT hZ (own_hw hw 211)) (mvT hZ (own_hw hw 212)) (notFace_of_selects (args := #[]) (mvT hZ (own_hw hw 214))) (mvT hZ (own_hw hw 214)) (mvT hZ (own_hw hw 213)) (by decide) (backOf (W := 0) (red_1 l Z a0 hw [] a1 ea ke q0_ q1_ q2_ h0 n0 (by omega) pr3 pr4 hq_) hZ (own_hw hw 215) (own_hw hw 46) (by decide) (by decide)) q3a q3c (g := (mkF m 11 #[oR a1, oi 1] [(.int (1 : Int32)), (.ref a1)])) rfl hml.symm (Steps.refl _) (argsL := [(.int (1 : Int32))]) (rest := []) (lenOf pd_14 rfl) rfl (Nat.le_of_eq rfl) (hb hby d34_11) (fun _ _ => ⟨rfl, eq2, (by decide : 0 + 0 ≤ _), (by decide : 0 + 0 ≤ _)⟩)
  dsimp only [Pt.U, Pt.locs, Pt.cells, Pt.slots] at X3 lq3 yq3 zq3 st3 hQ3
  subst lq3 yq3 zq3
  obtain ⟨rfl, Nq3, eq3⟩ := hQ3
  have N3 := Fr.app N2 Nq3
  refine ow (oT T3 m 14 #[oR a1, oi 1] [q1_]) (fun _ k => st3.trans k) ?_
  obtain ⟨fs, hr, hrun, hended, hW, hsame⟩ := X3.leave (v := some q1_) (fun h => by rw [Bd.returns] at h; cases h)
  refine ⟨_, _, ?_, hP _ _ hrun hended ⟨_, _, rfl, ?_, ⟨_, rfl⟩, hW, hsame.mono (by decide) (by decide)⟩⟩
  · exact retOut X3 hx Bd.returns (own_nar_ref ((by assumption))) (Or.inr (Or.inr (Or.inr (Or.inr ⟨rfl, rfl, ((by assumption))⟩)))) (hb hby d34_14) hr
  ·
   show Qrge_13 Z a1 ea ke q0_ q1_ q2_ h0 n0 _ T3.heap _
   rw [eq3]
   exact ⟨rfl, N3, rfl⟩
theorem ef_rci_23 (m : MethodId) (x0 : Int32) (x1 : Int32) : entryFrame m #[(.int x0), (.int x1), .null] 3 = mkF m 0 #[.val (.int x0), .val (.int x1), .val .null] [] := by first | (simp [entryFrame, mkF, argsToLocals, Value.category]; done) | rfl
def Qrci_23 (Z : State)  (h0 : Heap) (n0 : Nat) (v : Option Value) (h : Heap) (L : List Loc) : Prop := (v = some (.int (2 : Int32))) ∧ (Fr n0 L) ∧ (h = h0)
set_option maxRecDepth 65536 in
set_option maxHeartbeats 40000000 in
theorem rci_23 (l : Launch) (Z : State) (a0 : Array Value) (hw : ∀ d ∈ tables_1, d.before a0 Z = true) (ws : List Jvm.Cond)  (h0 : Heap) (n0 : Nat) (Z0 : n0 ≤ h0.size)  :
    MetFree l oM2 (head1 (Jvm.Cond.code oM2 jdk_41_method_11_code 3 (some .int) :: ws) ({ frames := 0, cells := 0, slots := 0, locals := 0 } : Room)) (fun a U => a = #[(.int (2 : Int32)), (.int (3 : Int32)), .null] ∧ Z.Warmed39 U.vm ∧ U.heap = h0) (fun _ _ _ _ _ => True) (fun _ U o U' => ∃ v L, o = .returned v ∧ Qrci_23 Z  h0 n0 v U'.heap L ∧ FrameEnd U o U' L ({ frames := 0, cells := 0, slots := 0, locals := 0 } : Room).cells ({ frames := 0, cells := 0, slots := 0, locals := 0 } : Room).slots) := by
  refine MetFree.of_bodySF (plainFor_of_name pn_36) hisR ?_
  intro p e s m args below meth c s₁ Bd hml0 hP0 hK
  obtain ⟨rfl, hZ, hh⟩ := hP0
  have hx := Bd.exec
  have hby := Bd.bytes
  have hml : c.maxLocals = 3 := hml0
  have hown : s.vm.findClass oS17 = some m.cls := findClass_of_methodNamed Bd.named
  have hnm := (name_of_methodNamed Bd.named Bd.method).1
  have X0 : Stand p l e ({ frames := 0, cells := 0, slots := 0, locals := 0 } : Room) s m #[(.int (2 : Int32)), (.int (3 : Int32)), .null] below meth c s₁ [] 0 0 := Stand.of_body Bd
  have e0 : s₁.heap = h0 := by rw [← hh, Bd.state]; rfl
  have N0 := Fr.nil n0
  refine own_fin (st' := s₁.setTop (mkF m 0 #[oi 2, oi 3, .val .null] [])) (fun _ k => castTop (ef_rci_23 m (2 : Int32) (3 : Int32)) k) (fun P hP => ?_)
  refine ow (oT s₁ m 1 #[oi 2, oi 3, .val .null] [(.int (2 : Int32))]) (fun _ k => XS.iloadN X0.here hx rfl (hb hby d36_0) rfl k) ?_
  have hc1 : ¬ ((2 : Int32) < (0 : Int32)) := by decide
  refine ow (oT s₁ m 4 #[oi 2, oi 3, .val .null] []) (fun _ k => XS.ifNo X0.here hx rfl (hb hby d36_1) rfl ((if0 _ _).trans (flt hc1).1) k) ?_
  refine ow (oT s₁ m 5 #[oi 2, oi 3, .val .null] [(.int (2 : Int32))]) (fun _ k => XS.iloadN X0.here hx rfl (hb hby d36_4) rfl k) ?_
  refine ow (oT s₁ m 6 #[oi 2, oi 3, .val .null] [(.int (3 : Int32)), (.int (2 : Int32))]) (fun _ k => XS.iloadN X0.here hx rfl (hb hby d36_5) rfl k) ?_
  have hc2 : (2 : Int32) < (3 : Int32) := by decide
  refine ow (oT s₁ m 16 #[oi 2, oi 3, .val .null] []) (fun _ k => XS.icmpYes X0.here hx rfl (pc0 := 6) (pc' := 16) rfl (hb hby d36_6) rfl (tlt hc2).1 (by decide) (by decide) k) ?_
  refine ow (oT s₁ m 17 #[oi 2, oi 3, .val .null] [(.int (2 : Int32))]) (fun _ k => XS.iloadN X0.here hx rfl (hb hby d36_16) rfl k) ?_
  obtain ⟨fs, hr, hrun, hended, hW, hsame⟩ := X0.leave (v := some (.int (2 : Int32))) (fun h => by rw [Bd.returns] at h; cases h)
  refine ⟨_, _, ?_, hP _ _ hrun hended ⟨_, _, rfl, ?_, ⟨_, rfl⟩, hW, hsame.mono (by decide) (by decide)⟩⟩
  · exact retOut X0 hx Bd.returns rfl (Or.inl ⟨rfl, Or.inl rfl, _, rfl⟩) (hb hby d36_17) hr
  ·
   show Qrci_23 Z  h0 n0 _ s₁.heap _
   rw [e0]
   exact ⟨rfl, N0, rfl⟩
theorem ef_rcj_23 (m : MethodId) (x0 : Int32) (x1 : Int32) : entryFrame m #[(.int x0), (.int x1)] 2 = mkF m 0 #[.val (.int x0), .val (.int x1)] [] := by first | (simp [entryFrame, mkF, argsToLocals, Value.category]; done) | rfl
def Qrcj_23 (Z : State)  (h0 : Heap) (n0 : Nat) (v : Option Value) (h : Heap) (L : List Loc) : Prop := (v = some (.int (2 : Int32))) ∧ (Fr n0 L) ∧ (h = h0)
set_option maxRecDepth 65536 in
set_option maxHeartbeats 40000000 in
theorem rcj_23 (l : Launch) (Z : State) (a0 : Array Value) (hw : ∀ d ∈ tables_1, d.before a0 Z = true) (ws : List Jvm.Cond)  (h0 : Heap) (n0 : Nat) (Z0 : n0 ≤ h0.size)  :
    MetFree l oM3 (head1 (Jvm.Cond.code oM3 jdk_31_method_17_code 2 (some .int) :: ws) ({ frames := 1, cells := 0, slots := 0, locals := 14 } : Room)) (fun a U => a = #[(.int (2 : Int32)), (.int (3 : Int32))] ∧ Z.Warmed39 U.vm ∧ U.heap = h0) (fun _ _ _ _ _ => True) (fun _ U o U' => ∃ v L, o = .returned v ∧ Qrcj_23 Z  h0 n0 v U'.heap L ∧ FrameEnd U o U' L ({ frames := 1, cells := 0, slots := 0, locals := 14 } : Room).cells ({ frames := 1, cells := 0, slots := 0, locals := 14 } : Room).slots) := by
  refine MetFree.of_bodySF (plainFor_of_name pn_35) hisR ?_
  intro p e s m args below meth c s₁ Bd hml0 hP0 hK
  obtain ⟨rfl, hZ, hh⟩ := hP0
  have hx := Bd.exec
  have hby := Bd.bytes
  have hml : c.maxLocals = 2 := hml0
  have hown : s.vm.findClass oS15 = some m.cls := findClass_of_methodNamed Bd.named
  have hnm := (name_of_methodNamed Bd.named Bd.method).1
  have X0 : Stand p l e ({ frames := 1, cells := 0, slots := 0, locals := 14 } : Room) s m #[(.int (2 : Int32)), (.int (3 : Int32))] below meth c s₁ [] 0 0 := Stand.of_body Bd
  have e0 : s₁.heap = h0 := by rw [← hh, Bd.state]; rfl
  have N0 := Fr.nil n0
  refine own_fin (st' := s₁.setTop (mkF m 0 #[oi 2, oi 3] [])) (fun _ k => castTop (ef_rcj_23 m (2 : Int32) (3 : Int32)) k) (fun P hP => ?_)
  refine ow (oT s₁ m 1 #[oi 2, oi 3] [(.int (2 : Int32))]) (fun _ k => XS.iloadN X0.here hx rfl (hb hby d35_0) rfl k) ?_
  refine ow (oT s₁ m 2 #[oi 2, oi 3] [(.int (3 : Int32)), (.int (2 : Int32))]) (fun _ k => XS.iloadN X0.here hx rfl (hb hby d35_1) rfl k) ?_
  refine ow (oT s₁ m 3 #[oi 2, oi 3] [.null, (.int (3 : Int32)), (.int (2 : Int32))]) (fun _ k => XS.aconstNull X0.here hx rfl (hb hby d35_2) k) ?_
  obtain ⟨_, _, ⟨T1, LC1, kC1, nC1⟩, -, X1, ⟨Lc1, hQ1, lq1, yq1, zq1⟩, st1⟩ := Jvm.LawKit.callS X0 hx (y := oM2) hown (mvT hZ (own_hw hw 207)) (mvT hZ (own_hw hw 208)) (mvT hZ (own_hw hw 209)) (mvT hZ (own_hw hw 210)) (by decide) (backOf (W := 0) (rci_23 l Z a0 hw []  h0 n0 (by omega) ) hZ (own_hw hw 210) (own_hw hw 209) (by decide) (by decide)) (g := (mkF m 3 #[oi 2, oi 3] [.null, (.int (3 : Int32)), (.int (2 : Int32))])) rfl hml.symm (argsL := [(.int (2 : Int32)), (.int (3 : Int32)), .null]) (rest := []) (lenOf pd_13 rfl) rfl (Nat.le_of_eq rfl) (hb hby d35_3) (fun _ _ => ⟨rfl, e0, (by decide : 0 + 0 ≤ _), (by decide : 0 + 0 ≤ _)⟩)
  dsimp only [Pt.U, Pt.locs, Pt.cells, Pt.slots] at X1 lq1 yq1 zq1 st1 hQ1
  subst lq1 yq1 zq1
  obtain ⟨rfl, Nq1, eq1⟩ := hQ1
  have N1 := Fr.app N0 Nq1
  refine ow (oT T1 m 6 #[oi 2, oi 3] [(.int (2 : Int32))]) (fun t k => st1 t k) ?_
  obtain ⟨fs, hr, hrun, hended, hW, hsame⟩ := X1.leave (v := some (.int (2 : Int32))) (fun h => by rw [Bd.returns] at h; cases h)
  refine ⟨_, _, ?_, hP _ _ hrun hended ⟨_, _, rfl, ?_, ⟨_, rfl⟩, hW, hsame.mono (by decide) (by decide)⟩⟩
  · exact retOut X1 hx Bd.returns rfl (Or.inl ⟨rfl, Or.inl rfl, _, rfl⟩) (hb hby d35_6) hr
  ·
   show Qrcj_23 Z  h0 n0 _ T1.heap _
   rw [eq1]
   exact ⟨rfl, N1, rfl⟩
theorem ef_red_2 (m : MethodId) (x0 : Addr) (x1 : Int32) : entryFrame m #[(.ref x0), (.int x1)] 2 = mkF m 0 #[.val (.ref x0), .val (.int x1)] [] := by first | (simp [entryFrame, mkF, argsToLocals, Value.category]; done) | rfl
def Qred_2 (Z : State) (a1 : Addr) (ea : Addr) (ke : ClassId) (q0_ : Value) (q1_ : Value) (q2_ : Value) (h0 : Heap) (n0 : Nat) (v : Option Value) (h : Heap) (L : List Loc) : Prop := (v = some q2_) ∧ (Fr n0 L) ∧ (h = h0)
set_option maxRecDepth 65536 in
set_option maxHeartbeats 40000000 in
theorem red_2 (l : Launch) (Z : State) (a0 : Array Value) (hw : ∀ d ∈ tables_1, d.before a0 Z = true) (ws : List Jvm.Cond) (a1 : Addr) (ea : Addr) (ke : ClassId) (q0_ : Value) (q1_ : Value) (q2_ : Value) (h0 : Heap) (n0 : Nat) (Z0 : n0 ≤ h0.size) (pr1 : Fld Z h0 a1 oS1 "elementData" oS3 (.ref ea)) (pr2 : Arv Z h0 ea ke (.object oS2) (10 : Int32) [q0_, q1_, q2_, .null, .null, .null, .null, .null, .null, .null] .null) (hq_ : q2_.isRef = true) :
    MetFree l oM4 (head1 (Jvm.Cond.code oM4 jdk_38_method_18_code 2 (some (.object oS2)) :: ws) ({ frames := 0, cells := 0, slots := 0, locals := 0 } : Room)) (fun a U => a = #[(.ref a1), (.int (2 : Int32))] ∧ Z.Warmed39 U.vm ∧ U.heap = h0) (fun _ _ _ _ _ => True) (fun _ U o U' => ∃ v L, o = .returned v ∧ Qred_2 Z a1 ea ke q0_ q1_ q2_ h0 n0 v U'.heap L ∧ FrameEnd U o U' L ({ frames := 0, cells := 0, slots := 0, locals := 0 } : Room).cells ({ frames := 0, cells := 0, slots := 0, locals := 0 } : Room).slots) := by
  refine MetFree.of_bodySF (plainFor_of_name pn_37) hisR ?_
  intro p e s m args below meth c s₁ Bd hml0 hP0 hK
  obtain ⟨rfl, hZ, hh⟩ := hP0
  have hx := Bd.exec
  have hby := Bd.bytes
  have hml : c.maxLocals = 2 := hml0
  have hown : s.vm.findClass oS1 = some m.cls := findClass_of_methodNamed Bd.named
  have hnm := (name_of_methodNamed Bd.named Bd.method).1
  have X0 : Stand p l e ({ frames := 0, cells := 0, slots := 0, locals := 0 } : Room) s m #[(.ref a1), (.int (2 : Int32))] below meth c s₁ [] 0 0 := Stand.of_body Bd
  have e0 : s₁.heap = h0 := by rw [← hh, Bd.state]; rfl
  have N0 := Fr.nil n0
  refine own_fin (st' := s₁.setTop (mkF m 0 #[oR a1, oi 2] [])) (fun _ k => castTop (ef_red_2 m a1 (2 : Int32)) k) (fun P hP => ?_)
  have lt_a1 : @LT.lt Nat _ a1 h0.size := pr1.lt
  have lt_ea : @LT.lt Nat _ ea h0.size := pr2.lt
  refine ow (oT s₁ m 1 #[oR a1, oi 2] [(.ref a1)]) (fun _ k => XS.aloadN X0.here hx rfl (hb hby d37_0) rfl rfl k) ?_
  obtain ⟨T1, X1, e1, st1⟩ := getF X0 hx hZ hown (host := "") (Or.inl (own_hw hw 66)) Via.refl e0 pr1 (g := (mkF m 1 #[oR a1, oi 2] [(.ref a1)])) rfl rfl (hb hby d37_1)
  refine ow (oT T1 m 4 #[oR a1, oi 2] [(.ref ea)]) (st1) ?_
  refine ow (oT T1 m 5 #[oR a1, oi 2] [(.int (2 : Int32)), (.ref ea)]) (fun _ k => XS.iloadN X1.here hx rfl (hb hby d37_4) rfl k) ?_
  obtain ⟨cl2, Ar2, -, S2, M2, H2, -⟩ := id pr2
  have hin2 : ¬ ((2 : Int32) < 0 ∨ cl2.slots.size ≤ ((2 : Int32)).toNatClampNeg) := (inb_of S2 ⟨by decide, by decide⟩)
  have hat2 : cl2.slots[((2 : Int32)).toNatClampNeg]? = some q2_ := (H2.at hin2 rfl)
  refine ow (oT T1 m 6 #[oR a1, oi 2] [q2_]) (X1.aaload hx (j := (2 : Int32)) (v := q2_) (by rw [e1]; exact Ar2.1) (State.isArrayOf_alike hZ.alike Ar2.2.1) rfl Ar2.2.2 hin2 hat2 (g := (mkF m 5 #[oR a1, oi 2] [(.int (2 : Int32)), (.ref ea)])) rfl rfl (hb hby d37_5)) ?_
  obtain ⟨fs, hr, hrun, hended, hW, hsame⟩ := X1.leave (v := some q2_) (fun h => by rw [Bd.returns] at h; cases h)
  refine ⟨_, _, ?_, hP _ _ hrun hended ⟨_, _, rfl, ?_, ⟨_, rfl⟩, hW, hsame.mono (by decide) (by decide)⟩⟩
  · exact retOut X1 hx Bd.returns (own_nar_ref hq_) (Or.inr (Or.inr (Or.inr (Or.inr ⟨rfl, rfl, hq_⟩)))) (hb hby d37_6) hr
  ·
   show Qred_2 Z a1 ea ke q0_ q1_ q2_ h0 n0 _ T1.heap _
   rw [e1]
   exact ⟨rfl, N0, rfl⟩
theorem ef_rge_23 (m : MethodId) (x0 : Addr) (x1 : Int32) : entryFrame m #[(.ref x0), (.int x1)] 2 = mkF m 0 #[.val (.ref x0), .val (.int x1)] [] := by first | (simp [entryFrame, mkF, argsToLocals, Value.category]; done) | rfl
def Qrge_23 (Z : State) (a1 : Addr) (ea : Addr) (ke : ClassId) (q0_ : Value) (q1_ : Value) (q2_ : Value) (h0 : Heap) (n0 : Nat) (v : Option Value) (h : Heap) (L : List Loc) : Prop := (v = some q2_) ∧ (Fr n0 L) ∧ (h = h0)
set_option maxRecDepth 65536 in
set_option maxHeartbeats 40000000 in
theorem rge_23 (l : Launch) (Z : State) (a0 : Array Value) (hw : ∀ d ∈ tables_1, d.before a0 Z = true) (ws : List Jvm.Cond) (a1 : Addr) (ea : Addr) (ke : ClassId) (q0_ : Value) (q1_ : Value) (q2_ : Value) (h0 : Heap) (n0 : Nat) (Z0 : n0 ≤ h0.size) (pr1 : Exa Z h0 a1 oS1) (pr2 : Fld Z h0 a1 oS1 "size" "I" (.int (3 : Int32))) (pr3 : Fld Z h0 a1 oS1 "elementData" oS3 (.ref ea)) (pr4 : Arv Z h0 ea ke (.object oS2) (10 : Int32) [q0_, q1_, q2_, .null, .null, .null, .null, .null, .null, .null] .null) (hq_ : q2_.isRef = true) :
    MetFree l oM5 (head1 (Jvm.Cond.code oM5 jdk_38_method_20_code 2 (some (.object oS2)) :: ws) ({ frames := 2, cells := 0, slots := 0, locals := 27 } : Room)) (fun a U => a = #[(.ref a1), (.int (2 : Int32))] ∧ Z.Warmed39 U.vm ∧ U.heap = h0) (fun _ _ _ _ _ => True) (fun _ U o U' => ∃ v L, o = .returned v ∧ Qrge_23 Z a1 ea ke q0_ q1_ q2_ h0 n0 v U'.heap L ∧ FrameEnd U o U' L ({ frames := 2, cells := 0, slots := 0, locals := 27 } : Room).cells ({ frames := 2, cells := 0, slots := 0, locals := 27 } : Room).slots) := by
  refine MetFree.of_bodySF (plainFor_of_name pn_34) hisR ?_
  intro p e s m args below meth c s₁ Bd hml0 hP0 hK
  obtain ⟨rfl, hZ, hh⟩ := hP0
  have hx := Bd.exec
  have hby := Bd.bytes
  have hml : c.maxLocals = 2 := hml0
  have hown : s.vm.findClass oS1 = some m.cls := findClass_of_methodNamed Bd.named
  have hnm := (name_of_methodNamed Bd.named Bd.method).1
  have X0 : Stand p l e ({ frames := 2, cells := 0, slots := 0, locals := 27 } : Room) s m #[(.ref a1), (.int (2 : Int32))] below meth c s₁ [] 0 0 := Stand.of_body Bd
  have e0 : s₁.heap = h0 := by rw [← hh, Bd.state]; rfl
  have N0 := Fr.nil n0
  refine own_fin (st' := s₁.setTop (mkF m 0 #[oR a1, oi 2] [])) (fun _ k => castTop (ef_rge_23 m a1 (2 : Int32)) k) (fun P hP => ?_)
  have lt_a1 : @LT.lt Nat _ a1 h0.size := pr1.lt
  have lt_ea : @LT.lt Nat _ ea h0.size := pr4.lt
  refine ow (oT s₁ m 1 #[oR a1, oi 2] [(.int (2 : Int32))]) (fun _ k => XS.iloadN X0.here hx rfl (hb hby d34_0) rfl k) ?_
  refine ow (oT s₁ m 2 #[oR a1, oi 2] [(.ref a1), (.int (2 : Int32))]) (fun _ k => XS.aloadN X0.here hx rfl (hb hby d34_1) rfl rfl k) ?_
  obtain ⟨T1, X1, e1, st1⟩ := getF X0 hx hZ hown (host := "") (Or.inl (own_hw hw 165)) Via.refl e0 pr2 (g := (mkF m 2 #[oR a1, oi 2] [(.ref a1), (.int (2 : Int32))])) rfl rfl (hb hby d34_2)
  refine ow (oT T1 m 5 #[oR a1, oi 2] [(.int (3 : Int32)), (.int (2 : Int32))]) (st1) ?_
  obtain ⟨_, _, ⟨T2, LC2, kC2, nC2⟩, -, X2, ⟨Lc2, hQ2, lq2, yq2, zq2⟩, st2⟩ := Jvm.LawKit.callS X1 hx (y := oM3) hown (mvT hZ (own_hw hw 204)) (mvT hZ (own_hw hw 205)) (mvT hZ (own_hw hw 101)) (mvT hZ (own_hw hw 206)) (by decide) (backOf (W := 0) (rcj_23 l Z a0 hw []  h0 n0 (by omega) ) hZ (own_hw hw 206) (own_hw hw 101) (by decide) (by decide)) (g := (mkF m 5 #[oR a1, oi 2] [(.int (3 : Int32)), (.int (2 : Int32))])) rfl hml.symm (argsL := [(.int (2 : Int32)), (.int (3 : Int32))]) (rest := []) (lenOf pd_9 rfl) rfl (Nat.le_of_eq rfl) (hb hby d34_5) (fun _ _ => ⟨rfl, e1, (by decide : 0 + 0 ≤ _), (by decide : 0 + 0 ≤ _)⟩)
  dsimp only [Pt.U, Pt.locs, Pt.cells, Pt.slots] at X2 lq2 yq2 zq2 st2 hQ2
  subst lq2 yq2 zq2
  obtain ⟨rfl, Nq2, eq2⟩ := hQ2
  have N2 := Fr.app N0 Nq2
  refine ow (oT T2 m 8 #[oR a1, oi 2] [(.int (2 : Int32))]) (fun t k => st2 t k) ?_
  refine ow (oT T2 m 9 #[oR a1, oi 2] []) (fun _ k => XS.pop X2.here hx rfl (hb hby d34_8) rfl rfl k) ?_
  refine ow (oT T2 m 10 #[oR a1, oi 2] [(.ref a1)]) (fun _ k => XS.aloadN X2.here hx rfl (hb hby d34_9) rfl rfl k) ?_
  refine ow (oT T2 m 11 #[oR a1, oi 2] [(.int (2 : Int32)), (.ref a1)]) (fun _ k => XS.iloadN X2.here hx rfl (hb hby d34_10) rfl k) ?_
  obtain ⟨cq3, kq3, q3a, q3b, q3c⟩ := isOf hZ eq2 pr1
  obtain ⟨_, _, ⟨T3, LC3, kC3, nC3⟩, -, X3, ⟨Lc3, hQ3, lq3, yq3, zq3⟩, st3⟩ := X2.virtualBack hx (y := oM4) (z := oM4) hown (mvT hZ (own_hw hw 211)) (mvT hZ (own_hw hw 212)) (notFace_of_selects (args := #[]) (mvT hZ (own_hw hw 214))) (mvT hZ (own_hw hw 214)) (mvT hZ (own_hw hw 213)) (by decide) (backOf (W := 0) (red_2 l Z a0 hw [] a1 ea ke q0_ q1_ q2_ h0 n0 (by omega) pr3 pr4 hq_) hZ (own_hw hw 215) (own_hw hw 46) (by decide) (by decide)) q3a q3c (g := (mkF m 11 #[oR a1, oi 2] [(.int (2 : Int32)), (.ref a1)])) rfl hml.symm (Steps.refl _) (argsL := [(.int (2 : Int32))]) (rest := []) (lenOf pd_14 rfl) rfl (Nat.le_of_eq rfl) (hb hby d34_11) (fun _ _ => ⟨rfl, eq2, (by decide : 0 + 0 ≤ _), (by decide : 0 + 0 ≤ _)⟩)
  dsimp only [Pt.U, Pt.locs, Pt.cells, Pt.slots] at X3 lq3 yq3 zq3 st3 hQ3
  subst lq3 yq3 zq3
  obtain ⟨rfl, Nq3, eq3⟩ := hQ3
  have N3 := Fr.app N2 Nq3
  refine ow (oT T3 m 14 #[oR a1, oi 2] [q2_]) (fun _ k => st3.trans k) ?_
  obtain ⟨fs, hr, hrun, hended, hW, hsame⟩ := X3.leave (v := some q2_) (fun h => by rw [Bd.returns] at h; cases h)
  refine ⟨_, _, ?_, hP _ _ hrun hended ⟨_, _, rfl, ?_, ⟨_, rfl⟩, hW, hsame.mono (by decide) (by decide)⟩⟩
  · exact retOut X3 hx Bd.returns (own_nar_ref ((by assumption))) (Or.inr (Or.inr (Or.inr (Or.inr ⟨rfl, rfl, ((by assumption))⟩)))) (hb hby d34_14) hr
  ·
   show Qrge_23 Z a1 ea ke q0_ q1_ q2_ h0 n0 _ T3.heap _
   rw [eq3]
   exact ⟨rfl, N3, rfl⟩
theorem d19_0 : decode jdk_31_method_10_code 0 = .ok (.aload_n 0, 1) := by decide +kernel
theorem d19_1 : decode jdk_31_method_10_code 1 = .ok (.ifnonnull 11, 3) := by decide +kernel
theorem d19_12 : decode jdk_31_method_10_code 12 = .ok (.aload_n 0, 1) := by decide +kernel
theorem d19_13 : decode jdk_31_method_10_code 13 = .ok (.areturn, 1) := by decide +kernel
theorem pn_19 : plainName "java/util/Objects" = true := by first | (simp [plainName, overriddenIn]; done) | decide +kernel
theorem ef_rm19 (m : MethodId) (x0 : Addr) : entryFrame m #[(.ref x0)] 1 = mkF m 0 #[.val (.ref x0)] [] := by first | (simp [entryFrame, mkF, argsToLocals, Value.category]; done) | rfl
def Qrm19 (Z : State) (a1 : Addr) (h0 : Heap) (n0 : Nat) (v : Option Value) (h : Heap) (L : List Loc) : Prop := (v = some (.ref a1)) ∧ (Fr n0 L) ∧ (h = h0)
set_option maxRecDepth 65536 in
set_option maxHeartbeats 40000000 in
theorem rm19 (l : Launch) (Z : State) (a0 : Array Value) (hw : ∀ d ∈ tables_1, d.before a0 Z = true) (ws : List Jvm.Cond) (a1 : Addr) (h0 : Heap) (n0 : Nat) (Z0 : n0 ≤ h0.size)  :
    MetFree l oM35 (head1 (Jvm.Cond.code oM35 jdk_31_method_10_code 1 (some (.object oS2)) :: ws) ({ frames := 0, cells := 0, slots := 0, locals := 0 } : Room)) (fun a U => a = #[(.ref a1)] ∧ Z.Warmed39 U.vm ∧ U.heap = h0) (fun _ _ _ _ _ => True) (fun _ U o U' => ∃ v L, o = .returned v ∧ Qrm19 Z a1 h0 n0 v U'.heap L ∧ FrameEnd U o U' L ({ frames := 0, cells := 0, slots := 0, locals := 0 } : Room).cells ({ frames := 0, cells := 0, slots := 0, locals := 0 } : Room).slots) := by
  refine MetFree.of_bodySF (plainFor_of_name pn_19) hisR ?_
  intro p e s m args below meth c s₁ Bd hml0 hP0 hK
  obtain ⟨rfl, hZ, hh⟩ := hP0
  have hx := Bd.exec
  have hby := Bd.bytes
  have hml : c.maxLocals = 1 := hml0
  have hown : s.vm.findClass oS15 = some m.cls := findClass_of_methodNamed Bd.named
  have hnm := (name_of_methodNamed Bd.named Bd.method).1
  have X0 : Stand p l e ({ frames := 0, cells := 0, slots := 0, locals := 0 } : Room) s m #[(.ref a1)] below meth c s₁ [] 0 0 := Stand.of_body Bd
  have e0 : s₁.heap = h0 := by rw [← hh, Bd.state]; rfl
  have N0 := Fr.nil n0
  refine own_fin (st' := s₁.setTop (mkF m 0 #[oR a1] [])) (fun _ k => castTop (ef_rm19 m a1) k) (fun P hP => ?_)
  refine ow (oT s₁ m 1 #[oR a1] [(.ref a1)]) (fun _ k => XS.aloadN X0.here hx rfl (hb hby d19_0) rfl rfl k) ?_
  refine ow (oT s₁ m 12 #[oR a1] []) (fun _ k => XS.ifnonnullYes X0.here hx rfl (pc0 := 1) (pc' := 12) rfl (hb hby d19_1) rfl (by decide) (by decide) k) ?_
  refine ow (oT s₁ m 13 #[oR a1] [(.ref a1)]) (fun _ k => XS.aloadN X0.here hx rfl (hb hby d19_12) rfl rfl k) ?_
  obtain ⟨fs, hr, hrun, hended, hW, hsame⟩ := X0.leave (v := some (.ref a1)) (fun h => by rw [Bd.returns] at h; cases h)
  refine ⟨_, _, ?_, hP _ _ hrun hended ⟨_, _, rfl, ?_, ⟨_, rfl⟩, hW, hsame.mono (by decide) (by decide)⟩⟩
  · exact retOut X0 hx Bd.returns rfl (Or.inr (Or.inr (Or.inr (Or.inr ⟨rfl, rfl, rfl⟩)))) (hb hby d19_13) hr
  ·
   show Qrm19 Z a1 h0 n0 _ s₁.heap _
   rw [e0]
   exact ⟨rfl, N0, rfl⟩
theorem pd_15 : parseMethodDescriptor "(Ljava/lang/Object;)Ljava/lang/Object;" = some ⟨[(.object "java/lang/Object")], some (.object "java/lang/Object")⟩ := by decide +kernel
theorem d16_0 : decode jdk_44_method_1_code 0 = .ok (.aload_n 0, 1) := by decide +kernel
theorem d16_1 : decode jdk_44_method_1_code 1 = .ok (.invokespecial 1, 3) := by decide +kernel
theorem d16_4 : decode jdk_44_method_1_code 4 = .ok (.aload_n 0, 1) := by decide +kernel
theorem d16_5 : decode jdk_44_method_1_code 5 = .ok (.aload_n 1, 1) := by decide +kernel
theorem d16_6 : decode jdk_44_method_1_code 6 = .ok (.invokestatic 7, 3) := by decide +kernel
theorem d16_9 : decode jdk_44_method_1_code 9 = .ok (.putfield 13, 3) := by decide +kernel
theorem d16_12 : decode jdk_44_method_1_code 12 = .ok (.aload_n 0, 1) := by decide +kernel
theorem d16_13 : decode jdk_44_method_1_code 13 = .ok (.getstatic 19, 3) := by decide +kernel
theorem d16_16 : decode jdk_44_method_1_code 16 = .ok (.putfield 24, 3) := by decide +kernel
theorem d16_19 : decode jdk_44_method_1_code 19 = .ok (.return_, 1) := by decide +kernel
theorem pn_16 : plainName "java/util/ImmutableCollections$List12" = true := by first | (simp [plainName, overriddenIn]; done) | decide +kernel
theorem ef_rm16 (m : MethodId) (x0 : Addr) (x1 : Addr) : entryFrame m #[(.ref x0), (.ref x1)] 2 = mkF m 0 #[.val (.ref x0), .val (.ref x1)] [] := by first | (simp [entryFrame, mkF, argsToLocals, Value.category]; done) | rfl
def Qrm16 (Z : State) (a1 : Addr) (ae : Addr) (em : Addr) (h0 : Heap) (n0 : Nat) (v : Option Value) (h : Heap) (L : List Loc) : Prop := (v = none) ∧ (Fr n0 L) ∧ (Keep h0 h [a1]) ∧ (Exa Z h a1 "java/util/ImmutableCollections$List12") ∧ (Fld Z h a1 "java/util/ImmutableCollections$List12" "e0" "Ljava/lang/Object;" (.ref ae)) ∧ (Fld Z h a1 "java/util/ImmutableCollections$List12" "e1" "Ljava/lang/Object;" (.ref em))
set_option maxRecDepth 65536 in
set_option maxHeartbeats 40000000 in
theorem rm16 (l : Launch) (Z : State) (a0 : Array Value) (hw : ∀ d ∈ tables_1, d.before a0 Z = true) (ws : List Jvm.Cond) (a1 : Addr) (ae : Addr) (em : Addr) (h0 : Heap) (n0 : Nat) (Z0 : n0 ≤ h0.size) (pr1 : Exa Z h0 a1 oS9) (pr2 : Fld Z h0 a1 oS9 "e0" oS5 .null) (pr3 : Fld Z h0 a1 oS9 "e1" oS5 .null) (pr4 : Sta Z h0 oS7 "EMPTY" oS5 (.ref em)) (pr5 : n0 ≤ a1) :
    MetFree l oM36 (head1 (Jvm.Cond.code oM36 jdk_44_method_1_code 2 none :: ws) ({ frames := 4, cells := 0, slots := 0, locals := 48 } : Room)) (fun a U => a = #[(.ref a1), (.ref ae)] ∧ Z.Warmed39 U.vm ∧ U.heap = h0) (fun _ _ _ _ _ => True) (fun _ U o U' => ∃ v L, o = .returned v ∧ Qrm16 Z a1 ae em h0 n0 v U'.heap L ∧ FrameEnd U o U' L ({ frames := 4, cells := 0, slots := 0, locals := 48 } : Room).cells ({ frames := 4, cells := 0, slots := 0, locals := 48 } : Room).slots) := by
  refine MetFree.of_bodySF (plainFor_of_name pn_16) hisR ?_
  intro p e s m args below meth c s₁ Bd hml0 hP0 hK
  obtain ⟨rfl, hZ, hh⟩ := hP0
  have hx := Bd.exec
  have hby := Bd.bytes
  have hml : c.maxLocals = 2 := hml0
  have hown : s.vm.findClass oS9 = some m.cls := findClass_of_methodNamed Bd.named
  have hnm := (name_of_methodNamed Bd.named Bd.method).1
  have X0 : Stand p l e ({ frames := 4, cells := 0, slots := 0, locals := 48 } : Room) s m #[(.ref a1), (.ref ae)] below meth c s₁ [] 0 0 := Stand.of_body Bd
  have e0 : s₁.heap = h0 := by rw [← hh, Bd.state]; rfl
  have N0 := Fr.nil n0
  refine own_fin (st' := s₁.setTop (mkF m 0 #[oR a1, oR ae] [])) (fun _ k => castTop (ef_rm16 m a1 ae) k) (fun P hP => ?_)
  have lt_a1 : @LT.lt Nat _ a1 h0.size := pr1.lt
  refine ow (oT s₁ m 1 #[oR a1, oR ae] [(.ref a1)]) (fun _ k => XS.aloadN X0.here hx rfl (hb hby d16_0) rfl rfl k) ?_
  obtain ⟨_, _, ⟨T1, LC1, kC1, nC1⟩, -, X1, ⟨Lc1, hQ1, lq1, yq1, zq1⟩, st1⟩ := X0.specialBack hx (y := oM29) rfl hown (mvT hZ (own_hw hw 85)) (mvT hZ (own_hw hw 86)) (mvT hZ (own_hw hw 90)) (by decide) (backOf (W := 0) (rm17 l Z a0 hw [] a1 h0 n0 (by omega) ) hZ (own_hw hw 90) (own_hw hw 89) (by decide) (by decide)) (g := (mkF m 1 #[oR a1, oR ae] [(.ref a1)])) rfl hml.symm (Steps.refl _) (a := a1) (argsL := []) (rest := []) (lenOf pd_8 rfl) rfl (Nat.le_of_eq rfl) (hb hby d16_1) (fun _ _ => ⟨rfl, e0, (by decide : 0 + 0 ≤ _), (by decide : 0 + 0 ≤ _)⟩)
  dsimp only [Pt.U, Pt.locs, Pt.cells, Pt.slots] at X1 lq1 yq1 zq1 st1 hQ1
  subst lq1 yq1 zq1
  obtain ⟨rfl, Nq1, eq1⟩ := hQ1
  have N1 := Fr.app N0 Nq1
  refine ow (oT T1 m 4 #[oR a1, oR ae] []) (fun _ k => st1.trans k) ?_
  refine ow (oT T1 m 5 #[oR a1, oR ae] [(.ref a1)]) (fun _ k => XS.aloadN X1.here hx rfl (hb hby d16_4) rfl rfl k) ?_
  refine ow (oT T1 m 6 #[oR a1, oR ae] [(.ref ae), (.ref a1)]) (fun _ k => XS.aloadN X1.here hx rfl (hb hby d16_5) rfl rfl k) ?_
  obtain ⟨_, _, ⟨T2, LC2, kC2, nC2⟩, -, X2, ⟨Lc2, hQ2, lq2, yq2, zq2⟩, st2⟩ := Jvm.LawKit.callS X1 hx (y := oM35) hown (mvT hZ (own_hw hw 99)) (mvT hZ (own_hw hw 100)) (mvT hZ (own_hw hw 101)) (mvT hZ (own_hw hw 102)) (by decide) (backOf (W := 1) (rm19 l Z a0 hw [] ae h0 n0 (by omega) ) hZ (own_hw hw 102) (own_hw hw 101) (by decide) (by decide)) (g := (mkF m 6 #[oR a1, oR ae] [(.ref ae), (.ref a1)])) rfl hml.symm (argsL := [(.ref ae)]) (rest := [(.ref a1)]) (lenOf pd_15 rfl) rfl (Nat.le_of_eq rfl) (hb hby d16_6) (fun _ _ => ⟨rfl, eq1, (by decide : 0 + 0 ≤ _), (by decide : 0 + 0 ≤ _)⟩)
  dsimp only [Pt.U, Pt.locs, Pt.cells, Pt.slots] at X2 lq2 yq2 zq2 st2 hQ2
  subst lq2 yq2 zq2
  obtain ⟨rfl, Nq2, eq2⟩ := hQ2
  have N2 := Fr.app N1 Nq2
  refine ow (oT T2 m 9 #[oR a1, oR ae] [(.ref ae), (.ref a1)]) (fun t k => st2 t k) ?_
  obtain ⟨T3, h3, X3, e3, W3, st3⟩ := putF X2 hx hZ hown (host := "") (Or.inl (own_hw hw 103)) Via.refl eq2 pr2 pr1 (Or.inr ⟨(own_hw hw 104), rfl, hnm⟩) (own_hw hw 79) (ty := (.object oS2)) (by decide) rfl rfl (g := (mkF m 9 #[oR a1, oR ae] [(.ref ae), (.ref a1)])) rfl rfl (hb hby d16_9)
  have sz3 : h3.size = h0.size := W3.size
  have N3 := Fr.snoc X3 N2 (by omega)
  have f3 : Fld Z h3 a1 oS9 "e0" oS5 (.ref ae) := pr2.same W3
  refine ow (oT T3 m 12 #[oR a1, oR ae] []) (st3) ?_
  refine ow (oT T3 m 13 #[oR a1, oR ae] [(.ref a1)]) (fun _ k => XS.aloadN X3.here hx rfl (hb hby d16_12) rfl rfl k) ?_
  have c4 : Sta Z h3 oS7 "EMPTY" oS5 (.ref em) := (pr4.wr W3)
  obtain ⟨T5, X5, e5, st5⟩ := getS2 X3 hx hZ hown (Or.inr (own_hw hw 105)) Via.refl e3 c4 (g := (mkF m 13 #[oR a1, oR ae] [(.ref a1)])) rfl (hb hby d16_13)
  refine ow (oT T5 m 16 #[oR a1, oR ae] [(.ref em), (.ref a1)]) (st5) ?_
  have c6 : Fld Z h3 a1 oS9 "e1" oS5 .null := (pr3.other W3 (Or.inr (slot_ne (Or.inr (own_hw hw 108)) (Or.inr (own_hw hw 104)) (by decide) (t := (.object oS2)) (t' := (.object oS2)) (by decide) (by decide))))
  have c7 : Exa Z h3 a1 oS9 := (pr1.wr W3)
  obtain ⟨T8, h8, X8, e8, W8, st8⟩ := putF X5 hx hZ hown (host := "") (Or.inl (own_hw hw 107)) Via.refl e5 c6 c7 (Or.inr ⟨(own_hw hw 108), rfl, hnm⟩) (own_hw hw 79) (ty := (.object oS2)) (by decide) rfl rfl (g := (mkF m 16 #[oR a1, oR ae] [(.ref em), (.ref a1)])) rfl rfl (hb hby d16_16)
  have sz8 : h8.size = h3.size := W8.size
  have N8 := Fr.snoc X8 N3 (by omega)
  have f8 : Fld Z h8 a1 oS9 "e1" oS5 (.ref em) := c6.same W8
  refine ow (oT T8 m 19 #[oR a1, oR ae] []) (st8) ?_
  obtain ⟨fs, hr, hrun, hended, hW, hsame⟩ := X8.leave (v := none) (fun _ => rfl)
  refine ⟨_, _, ?_, hP _ _ hrun hended ⟨_, _, rfl, ?_, ⟨_, rfl⟩, hW, hsame.mono (by decide) (by decide)⟩⟩
  · exact X8.returnOut hx Bd.returns (hb hby d16_19) hr
  ·
   show Qrm16 Z a1 ae em h0 n0 _ T8.heap _
   have c10 : Exa Z h8 a1 oS9 := (c7.wr W8)
   have c11 : Fld Z h8 a1 oS9 "e0" oS5 (.ref ae) := (f3.other W8 (Or.inr (slot_ne (Or.inr (own_hw hw 104)) (Or.inr (own_hw hw 108)) (by decide) (t := (.object oS2)) (t' := (.object oS2)) (by decide) (by decide))))
   rw [e8]
   exact ⟨rfl, N8, (((Keep.refl h0 [a1]).wr W3 (Or.inl (List.mem_of_getElem? (i := 0) rfl))).wr W8 (Or.inl (List.mem_of_getElem? (i := 0) rfl))), c10, c11, f8⟩
theorem pd_16 : parseMethodDescriptor "(Ljava/lang/Object;)V" = some ⟨[(.object "java/lang/Object")], none⟩ := by decide +kernel
theorem d15_0 : decode jdk_40_method_37_code 0 = .ok (.new 96, 3) := by decide +kernel
theorem d15_3 : decode jdk_40_method_37_code 3 = .ok (.dup, 1) := by decide +kernel
theorem d15_4 : decode jdk_40_method_37_code 4 = .ok (.aload_n 0, 1) := by decide +kernel
theorem d15_5 : decode jdk_40_method_37_code 5 = .ok (.invokespecial 98, 3) := by decide +kernel
theorem d15_8 : decode jdk_40_method_37_code 8 = .ok (.areturn, 1) := by decide +kernel
theorem pn_15 : plainName "java/util/List" = true := by first | (simp [plainName, overriddenIn]; done) | decide +kernel
theorem ef_rm15 (m : MethodId) (x0 : Addr) : entryFrame m #[(.ref x0)] 1 = mkF m 0 #[.val (.ref x0)] [] := by first | (simp [entryFrame, mkF, argsToLocals, Value.category]; done) | rfl
def Qrm15 (Z : State) (ae : Addr) (em : Addr) (h0 : Heap) (n0 : Nat) (v : Option Value) (h : Heap) (L : List Loc) : Prop := ∃ (r : Addr), (v = some (.ref r)) ∧ (Fr n0 L) ∧ (Keep h0 h []) ∧ (Exa Z h r "java/util/ImmutableCollections$List12") ∧ (Fld Z h r "java/util/ImmutableCollections$List12" "e0" "Ljava/lang/Object;" (.ref ae)) ∧ (Fld Z h r "java/util/ImmutableCollections$List12" "e1" "Ljava/lang/Object;" (.ref em)) ∧ (h0.size ≤ r)
set_option maxRecDepth 65536 in
set_option maxHeartbeats 40000000 in
theorem rm15 (l : Launch) (Z : State) (a0 : Array Value) (hw : ∀ d ∈ tables_1, d.before a0 Z = true) (ws : List Jvm.Cond) (ae : Addr) (em : Addr) (h0 : Heap) (n0 : Nat) (Z0 : n0 ≤ h0.size) (pr1 : Sta Z h0 oS7 "EMPTY" oS5 (.ref em)) :
    MetFree l oM37 (head1 (Jvm.Cond.code oM37 jdk_40_method_37_code 1 (some (.object oS11)) :: ws) ({ frames := 5, cells := 1, slots := 2, locals := 62 } : Room)) (fun a U => a = #[(.ref ae)] ∧ Z.Warmed39 U.vm ∧ U.heap = h0) (fun _ _ _ _ _ => True) (fun _ U o U' => ∃ v L, o = .returned v ∧ Qrm15 Z ae em h0 n0 v U'.heap L ∧ FrameEnd U o U' L ({ frames := 5, cells := 1, slots := 2, locals := 62 } : Room).cells ({ frames := 5, cells := 1, slots := 2, locals := 62 } : Room).slots) := by
  refine MetFree.of_bodySF (plainFor_of_name pn_15) hisR ?_
  intro p e s m args below meth c s₁ Bd hml0 hP0 hK
  obtain ⟨rfl, hZ, hh⟩ := hP0
  have hx := Bd.exec
  have hby := Bd.bytes
  have hml : c.maxLocals = 1 := hml0
  have hown : s.vm.findClass oS11 = some m.cls := findClass_of_methodNamed Bd.named
  have hnm := (name_of_methodNamed Bd.named Bd.method).1
  have X0 : Stand p l e ({ frames := 5, cells := 1, slots := 2, locals := 62 } : Room) s m #[(.ref ae)] below meth c s₁ [] 0 0 := Stand.of_body Bd
  have e0 : s₁.heap = h0 := by rw [← hh, Bd.state]; rfl
  have N0 := Fr.nil n0
  refine own_fin (st' := s₁.setTop (mkF m 0 #[oR ae] [])) (fun _ k => castTop (ef_rm15 m ae) k) (fun P hP => ?_)
  obtain ⟨T1, h1, X1, e1, E1, A1, D1, -, st1⟩ := newO X0 hx hZ hown (own_hw hw 78) (own_hw hw 79) (own_hw hw 80) e0 (g := (mkF m 0 #[oR ae] [])) rfl (hb hby d15_0) (by decide) (by decide)
  obtain ⟨b1, g1⟩ : ∃ z, z = h0.size := ⟨_, rfl⟩
  rw [← g1] at A1 D1 st1
  have sz1 : h0.size ≤ h1.size := E1.1
  have lt1 : @LT.lt Nat _ b1 h1.size := A1.lt
  have f2 : Fld Z h1 b1 oS9 "e0" oS5 .null := D1 (Or.inr (own_hw hw 104)) (ty := (.object oS2)) (by decide)
  have f3 : Fld Z h1 b1 oS9 "e1" oS5 .null := D1 (Or.inr (own_hw hw 108)) (ty := (.object oS2)) (by decide)
  refine ow (oT T1 m 3 #[oR ae] [(.ref b1)]) (st1) ?_
  refine ow (oT T1 m 4 #[oR ae] [(.ref b1), (.ref b1)]) (fun _ k => XS.dup X1.here hx rfl (hb hby d15_3) rfl rfl k) ?_
  refine ow (oT T1 m 5 #[oR ae] [(.ref ae), (.ref b1), (.ref b1)]) (fun _ k => XS.aloadN X1.here hx rfl (hb hby d15_4) rfl rfl k) ?_
  have c5 : Sta Z h1 oS7 "EMPTY" oS5 (.ref em) := (pr1.ext E1)
  obtain ⟨_, _, ⟨T4, LC4, kC4, nC4⟩, -, X4, ⟨Lc4, hQ4, lq4, yq4, zq4⟩, st4⟩ := X1.specialBack hx (y := oM36) rfl hown (mvT hZ (own_hw hw 81)) (mvT hZ (own_hw hw 82)) (mvT hZ (own_hw hw 84)) (by decide) (backOf (W := 1) (rm16 l Z a0 hw [] b1 ae em h1 n0 (by omega) A1 f2 f3 c5 (by omega)) hZ (own_hw hw 84) (own_hw hw 80) (by decide) (by decide)) (g := (mkF m 5 #[oR ae] [(.ref ae), (.ref b1), (.ref b1)])) rfl hml.symm (Steps.refl _) (a := b1) (argsL := [(.ref ae)]) (rest := [(.ref b1)]) (lenOf pd_16 rfl) rfl (Nat.le_of_eq rfl) (hb hby d15_5) (fun _ _ => ⟨rfl, e1, (by decide : 1 + 0 ≤ _), (by decide : 2 + 0 ≤ _)⟩)
  dsimp only [Pt.U, Pt.locs, Pt.cells, Pt.slots] at X4 lq4 yq4 zq4 st4 hQ4
  subst lq4 yq4 zq4
  obtain ⟨h4, e4⟩ : ∃ z, T4.heap = z := ⟨_, rfl⟩
  rw [e4] at hQ4
  obtain ⟨rfl, Nq4, K4, g4_0, g4_1, g4_2⟩ := hQ4
  have sz4 : h1.size ≤ h4.size := K4.1
  have N4 := Fr.app N0 Nq4
  have lt4_1 : @LT.lt Nat _ b1 h4.size := g4_0.lt
  refine ow (oT T4 m 8 #[oR ae] [(.ref b1)]) (fun _ k => st4.trans k) ?_
  obtain ⟨fs, hr, hrun, hended, hW, hsame⟩ := X4.leave (v := some (.ref b1)) (fun h => by rw [Bd.returns] at h; cases h)
  refine ⟨_, _, ?_, hP _ _ hrun hended ⟨_, _, rfl, ?_, ⟨_, rfl⟩, hW, hsame.mono (by decide) (by decide)⟩⟩
  · exact retOut X4 hx Bd.returns rfl (Or.inr (Or.inr (Or.inr (Or.inr ⟨rfl, rfl, rfl⟩)))) (hb hby d15_8) hr
  ·
   show Qrm15 Z ae em h0 n0 _ T4.heap _
   rw [e4]
   exact ⟨b1, rfl, N4, (((Keep.refl h0 []).ext E1).trans K4 (allS (P := fun x => x ∈ [] ∨ h0.size ≤ x) (Or.inr (by omega)) all0)), g4_0, g4_1, g4_2, (by omega)⟩
theorem d20_0 : decode prog_49_method_1_code 0 = .ok (.aload_n 0, 1) := by decide +kernel
theorem d20_1 : decode prog_49_method_1_code 1 = .ok (.invokespecial 1, 3) := by decide +kernel
theorem d20_4 : decode prog_49_method_1_code 4 = .ok (.aload_n 0, 1) := by decide +kernel
theorem d20_5 : decode prog_49_method_1_code 5 = .ok (.iload_n 1, 1) := by decide +kernel
theorem d20_6 : decode prog_49_method_1_code 6 = .ok (.putfield 7, 3) := by decide +kernel
theorem d20_9 : decode prog_49_method_1_code 9 = .ok (.aload_n 0, 1) := by decide +kernel
theorem d20_10 : decode prog_49_method_1_code 10 = .ok (.aload_n 2, 1) := by decide +kernel
theorem d20_11 : decode prog_49_method_1_code 11 = .ok (.putfield 13, 3) := by decide +kernel
theorem d20_14 : decode prog_49_method_1_code 14 = .ok (.aload_n 0, 1) := by decide +kernel
theorem d20_15 : decode prog_49_method_1_code 15 = .ok (.aload_n 3, 1) := by decide +kernel
theorem d20_16 : decode prog_49_method_1_code 16 = .ok (.putfield 17, 3) := by decide +kernel
theorem d20_19 : decode prog_49_method_1_code 19 = .ok (.return_, 1) := by decide +kernel
theorem pn_20 : plainName "com/example/scatterkeep/scatterkeep/protocol/AccessPoint$Reply" = true := by first | (simp [plainName, overriddenIn]; done) | decide +kernel
theorem ef_rm20 (m : MethodId) (x0 : Addr) (x1 : Int32) (x2 : Addr) (x3 : Addr) : entryFrame m #[(.ref x0), (.int x1), (.ref x2), (.ref x3)] 4 = mkF m 0 #[.val (.ref x0), .val (.int x1), .val (.ref x2), .val (.ref x3)] [] := by first | (simp [entryFrame, mkF, argsToLocals, Value.category]; done) | rfl
def Qrm20 (Z : State) (a1 : Addr) (ao : Addr) (ar : Addr) (zs : Int32) (h0 : Heap) (n0 : Nat) (v : Option Value) (h : Heap) (L : List Loc) : Prop := (v = none) ∧ (Fr n0 L) ∧ (Keep h0 h [a1]) ∧ (Exa Z h a1 "com/example/scatterkeep/scatterkeep/protocol/AccessPoint$Reply") ∧ (Fld Z h a1 "com/example/scatterkeep/scatterkeep/protocol/AccessPoint$Reply" "m_nStatus" "I" (.int (0 : Int32))) ∧ (Fld Z h a1 "com/example/scatterkeep/scatterkeep/protocol/AccessPoint$Reply" "m_aOut" "Ljava/util/List;" (.ref ao)) ∧ (Fld Z h a1 "com/example/scatterkeep/scatterkeep/protocol/AccessPoint$Reply" "m_aErr" "Ljava/util/List;" (.ref ar))
set_option maxRecDepth 65536 in
set_option maxHeartbeats 40000000 in
theorem rm20 (l : Launch) (Z : State) (a0 : Array Value) (hw : ∀ d ∈ tables_1, d.before a0 Z = true) (ws : List Jvm.Cond) (a1 : Addr) (ao : Addr) (ar : Addr) (zs : Int32) (h0 : Heap) (n0 : Nat) (Z0 : n0 ≤ h0.size) (pr1 : Exa Z h0 a1 oS6) (pr2 : Fld Z h0 a1 oS6 "m_nStatus" "I" (.int zs)) (pr3 : Fld Z h0 a1 oS6 "m_aOut" oS12 .null) (pr4 : Fld Z h0 a1 oS6 "m_aErr" oS12 .null) (pr5 : n0 ≤ a1) :
    MetFree l oM38 (head1 (Jvm.Cond.code oM38 prog_49_method_1_code 4 none :: ws) ({ frames := 1, cells := 0, slots := 0, locals := 12 } : Room)) (fun a U => a = #[(.ref a1), (.int (0 : Int32)), (.ref ao), (.ref ar)] ∧ Z.Warmed39 U.vm ∧ U.heap = h0) (fun _ _ _ _ _ => True) (fun _ U o U' => ∃ v L, o = .returned v ∧ Qrm20 Z a1 ao ar zs h0 n0 v U'.heap L ∧ FrameEnd U o U' L ({ frames := 1, cells := 0, slots := 0, locals := 12 } : Room).cells ({ frames := 1, cells := 0, slots := 0, locals := 12 } : Room).slots) := by
  refine MetFree.of_bodySF (plainFor_of_name pn_20) hisR ?_
  intro p e s m args below meth c s₁ Bd hml0 hP0 hK
  obtain ⟨rfl, hZ, hh⟩ := hP0
  have hx := Bd.exec
  have hby := Bd.bytes
  have hml : c.maxLocals = 4 := hml0
  have hown : s.vm.findClass oS6 = some m.cls := findClass_of_methodNamed Bd.named
  have hnm := (name_of_methodNamed Bd.named Bd.method).1
  have X0 : Stand p l e ({ frames := 1, cells := 0, slots := 0, locals := 12 } : Room) s m #[(.ref a1), (.int (0 : Int32)), (.ref ao), (.ref ar)] below meth c s₁ [] 0 0 := Stand.of_body Bd
  have e0 : s₁.heap = h0 := by rw [← hh, Bd.state]; rfl
  have N0 := Fr.nil n0
  refine own_fin (st' := s₁.setTop (mkF m 0 #[oR a1, oi 0, oR ao, oR ar] [])) (fun _ k => castTop (ef_rm20 m a1 (0 : Int32) ao ar) k) (fun P hP => ?_)
  have lt_a1 : @LT.lt Nat _ a1 h0.size := pr1.lt
  refine ow (oT s₁ m 1 #[oR a1, oi 0, oR ao, oR ar] [(.ref a1)]) (fun _ k => XS.aloadN X0.here hx rfl (hb hby d20_0) rfl rfl k) ?_
  obtain ⟨T1, X1, e1, st1⟩ := initO X0 hx hZ hown (own_hw hw 112) (own_hw hw 20) (own_hw hw 21) e0 (g := (mkF m 1 #[oR a1, oi 0, oR ao, oR ar] [(.ref a1)])) rfl (by rw [hml]; rfl) rfl (hb hby d20_1) (by decide) (W := 0) (by show 2 * 0 + _ ≤ _; exact Nat.le_of_eq rfl) (by decide)
  refine ow (oT T1 m 4 #[oR a1, oi 0, oR ao, oR ar] []) (st1) ?_
  refine ow (oT T1 m 5 #[oR a1, oi 0, oR ao, oR ar] [(.ref a1)]) (fun _ k => XS.aloadN X1.here hx rfl (hb hby d20_4) rfl rfl k) ?_
  refine ow (oT T1 m 6 #[oR a1, oi 0, oR ao, oR ar] [(.int (0 : Int32)), (.ref a1)]) (fun _ k => XS.iloadN X1.here hx rfl (hb hby d20_5) rfl k) ?_
  obtain ⟨T2, h2, X2, e2, W2, st2⟩ := putF X1 hx hZ hown (host := "") (Or.inl (own_hw hw 113)) Via.refl e1 pr2 pr1 (Or.inr ⟨(own_hw hw 114), rfl, hnm⟩) (own_hw hw 73) (ty := .int) (by decide) rfl rfl (g := (mkF m 6 #[oR a1, oi 0, oR ao, oR ar] [(.int (0 : Int32)), (.ref a1)])) rfl rfl (hb hby d20_6)
  have sz2 : h2.size = h0.size := W2.size
  have N2 := Fr.snoc X2 N0 (by omega)
  have f2 : Fld Z h2 a1 oS6 "m_nStatus" "I" (.int (0 : Int32)) := pr2.same W2
  refine ow (oT T2 m 9 #[oR a1, oi 0, oR ao, oR ar] []) (st2) ?_
  refine ow (oT T2 m 10 #[oR a1, oi 0, oR ao, oR ar] [(.ref a1)]) (fun _ k => XS.aloadN X2.here hx rfl (hb hby d20_9) rfl rfl k) ?_
  refine ow (oT T2 m 11 #[oR a1, oi 0, oR ao, oR ar] [(.ref ao), (.ref a1)]) (fun _ k => XS.aloadN X2.here hx rfl (hb hby d20_10) rfl rfl k) ?_
  have c3 : Fld Z h2 a1 oS6 "m_aOut" oS12 .null := (pr3.other W2 (Or.inr (slot_ne (Or.inr (own_hw hw 116)) (Or.inr (own_hw hw 114)) (by decide) (t := (.object oS11)) (t' := .int) (by decide) (by decide))))
  have c4 : Exa Z h2 a1 oS6 := (pr1.wr W2)
  obtain ⟨T5, h5, X5, e5, W5, st5⟩ := putF X2 hx hZ hown (host := "") (Or.inl (own_hw hw 115)) Via.refl e2 c3 c4 (Or.inr ⟨(own_hw hw 116), rfl, hnm⟩) (own_hw hw 73) (ty := (.object oS11)) (by decide) rfl rfl (g := (mkF m 11 #[oR a1, oi 0, oR ao, oR ar] [(.ref ao), (.ref a1)])) rfl rfl (hb hby d20_11)
  have sz5 : h5.size = h2.size := W5.size
  have N5 := Fr.snoc X5 N2 (by omega)
  have f5 : Fld Z h5 a1 oS6 "m_aOut" oS12 (.ref ao) := c3.same W5
  refine ow (oT T5 m 14 #[oR a1, oi 0, oR ao, oR ar] []) (st5) ?_
  refine ow (oT T5 m 15 #[oR a1, oi 0, oR ao, oR ar] [(.ref a1)]) (fun _ k => XS.aloadN X5.here hx rfl (hb hby d20_14) rfl rfl k) ?_
  refine ow (oT T5 m 16 #[oR a1, oi 0, oR ao, oR ar] [(.ref ar), (.ref a1)]) (fun _ k => XS.aloadN X5.here hx rfl (hb hby d20_15) rfl rfl k) ?_
  have c6 : Fld Z h5 a1 oS6 "m_aErr" oS12 .null := ((pr4.other W2 (Or.inr (slot_ne (Or.inr (own_hw hw 118)) (Or.inr (own_hw hw 114)) (by decide) (t := (.object oS11)) (t' := .int) (by decide) (by decide)))).other W5 (Or.inr (slot_ne (Or.inr (own_hw hw 118)) (Or.inr (own_hw hw 116)) (by decide) (t := (.object oS11)) (t' := (.object oS11)) (by decide) (by decide))))
  have c7 : Exa Z h5 a1 oS6 := (c4.wr W5)
  obtain ⟨T8, h8, X8, e8, W8, st8⟩ := putF X5 hx hZ hown (host := "") (Or.inl (own_hw hw 117)) Via.refl e5 c6 c7 (Or.inr ⟨(own_hw hw 118), rfl, hnm⟩) (own_hw hw 73) (ty := (.object oS11)) (by decide) rfl rfl (g := (mkF m 16 #[oR a1, oi 0, oR ao, oR ar] [(.ref ar), (.ref a1)])) rfl rfl (hb hby d20_16)
  have sz8 : h8.size = h5.size := W8.size
  have N8 := Fr.snoc X8 N5 (by omega)
  have f8 : Fld Z h8 a1 oS6 "m_aErr" oS12 (.ref ar) := c6.same W8
  refine ow (oT T8 m 19 #[oR a1, oi 0, oR ao, oR ar] []) (st8) ?_
  obtain ⟨fs, hr, hrun, hended, hW, hsame⟩ := X8.leave (v := none) (fun _ => rfl)
  refine ⟨_, _, ?_, hP _ _ hrun hended ⟨_, _, rfl, ?_, ⟨_, rfl⟩, hW, hsame.mono (by decide) (by decide)⟩⟩
  · exact X8.returnOut hx Bd.returns (hb hby d20_19) hr
  ·
   show Qrm20 Z a1 ao ar zs h0 n0 _ T8.heap _
   have c10 : Exa Z h8 a1 oS6 := (c7.wr W8)
   have c11 : Fld Z h8 a1 oS6 "m_nStatus" "I" (.int (0 : Int32)) := ((f2.other W5 (Or.inr (slot_ne (Or.inr (own_hw hw 114)) (Or.inr (own_hw hw 116)) (by decide) (t := .int) (t' := (.object oS11)) (by decide) (by decide)))).other W8 (Or.inr (slot_ne (Or.inr (own_hw hw 114)) (Or.inr (own_hw hw 118)) (by decide) (t := .int) (t' := (.object oS11)) (by decide) (by decide))))
   have c12 : Fld Z h8 a1 oS6 "m_aOut" oS12 (.ref ao) := (f5.other W8 (Or.inr (slot_ne (Or.inr (own_hw hw 116)) (Or.inr (own_hw hw 118)) (by decide) (t := (.object oS11)) (t' := (.object oS11)) (by decide) (by decide))))
   rw [e8]
   exact ⟨rfl, N8, ((((Keep.refl h0 [a1]).wr W2 (Or.inl (List.mem_of_getElem? (i := 0) rfl))).wr W5 (Or.inl (List.mem_of_getElem? (i := 0) rfl))).wr W8 (Or.inl (List.mem_of_getElem? (i := 0) rfl))), c10, c11, c12, f8⟩
theorem pd_17 : parseMethodDescriptor "(Ljava/lang/Object;)Ljava/util/List;" = some ⟨[(.object "java/lang/Object")], some (.object "java/util/List")⟩ := by decide +kernel
theorem pd_18 : parseMethodDescriptor "(ILjava/util/List;Ljava/util/List;)V" = some ⟨[.int, (.object "java/util/List"), (.object "java/util/List")], none⟩ := by decide +kernel
theorem d14_0 : decode prog_49_method_3_code 0 = .ok (.new 8, 3) := by decide +kernel
theorem d14_3 : decode prog_49_method_3_code 3 = .ok (.dup, 1) := by decide +kernel
theorem d14_4 : decode prog_49_method_3_code 4 = .ok (.iconst 0, 1) := by decide +kernel
theorem d14_5 : decode prog_49_method_3_code 5 = .ok (.aload_n 0, 1) := by decide +kernel
theorem d14_6 : decode prog_49_method_3_code 6 = .ok (.aload_n 1, 1) := by decide +kernel
theorem d14_7 : decode prog_49_method_3_code 7 = .ok (.invokestatic 31, 3) := by decide +kernel
theorem d14_10 : decode prog_49_method_3_code 10 = .ok (.invokespecial 28, 3) := by decide +kernel
theorem d14_13 : decode prog_49_method_3_code 13 = .ok (.areturn, 1) := by decide +kernel
theorem pn_14 : plainName "com/example/scatterkeep/scatterkeep/protocol/AccessPoint$Reply" = true := by first | (simp [plainName, overriddenIn]; done) | decide +kernel
theorem ef_rm14 (m : MethodId) (x0 : Addr) (x1 : Addr) : entryFrame m #[(.ref x0), (.ref x1)] 2 = mkF m 0 #[.val (.ref x0), .val (.ref x1)] [] := by first | (simp [entryFrame, mkF, argsToLocals, Value.category]; done) | rfl
def Qrm14 (Z : State) (ao : Addr) (ae : Addr) (em : Addr) (h0 : Heap) (n0 : Nat) (v : Option Value) (h : Heap) (L : List Loc) : Prop := ∃ (rp : Addr) (r : Addr), (v = some (.ref rp)) ∧ (Fr n0 L) ∧ (Keep h0 h []) ∧ (Exa Z h rp "com/example/scatterkeep/scatterkeep/protocol/AccessPoint$Reply") ∧ (Fld Z h rp "com/example/scatterkeep/scatterkeep/protocol/AccessPoint$Reply" "m_nStatus" "I" (.int (0 : Int32))) ∧ (Fld Z h rp "com/example/scatterkeep/scatterkeep/protocol/AccessPoint$Reply" "m_aOut" "Ljava/util/List;" (.ref ao)) ∧ (Fld Z h rp "com/example/scatterkeep/scatterkeep/protocol/AccessPoint$Reply" "m_aErr" "Ljava/util/List;" (.ref r)) ∧ (Exa Z h r "java/util/ImmutableCollections$List12") ∧ (Fld Z h r "java/util/ImmutableCollections$List12" "e0" "Ljava/lang/Object;" (.ref ae)) ∧ (Fld Z h r "java/util/ImmutableCollections$List12" "e1" "Ljava/lang/Object;" (.ref em)) ∧ (h0.size ≤ rp) ∧ (h0.size ≤ r)
set_option maxRecDepth 65536 in
set_option maxHeartbeats 40000000 in
theorem rm14 (l : Launch) (Z : State) (a0 : Array Value) (hw : ∀ d ∈ tables_1, d.before a0 Z = true) (ws : List Jvm.Cond) (ao : Addr) (ae : Addr) (em : Addr) (h0 : Heap) (n0 : Nat) (Z0 : n0 ≤ h0.size) (pr1 : Sta Z h0 oS7 "EMPTY" oS5 (.ref em)) :
    MetFree l oM19 (head1 (Jvm.Cond.code oM19 prog_49_method_3_code 2 (some (.object oS6)) :: ws) ({ frames := 6, cells := 2, slots := 5, locals := 78 } : Room)) (fun a U => a = #[(.ref ao), (.ref ae)] ∧ Z.Warmed39 U.vm ∧ U.heap = h0) (fun _ _ _ _ _ => True) (fun _ U o U' => ∃ v L, o = .returned v ∧ Qrm14 Z ao ae em h0 n0 v U'.heap L ∧ FrameEnd U o U' L ({ frames := 6, cells := 2, slots := 5, locals := 78 } : Room).cells ({ frames := 6, cells := 2, slots := 5, locals := 78 } : Room).slots) := by
  refine MetFree.of_bodySF (plainFor_of_name pn_14) hisR ?_
  intro p e s m args below meth c s₁ Bd hml0 hP0 hK
  obtain ⟨rfl, hZ, hh⟩ := hP0
  have hx := Bd.exec
  have hby := Bd.bytes
  have hml : c.maxLocals = 2 := hml0
  have hown : s.vm.findClass oS6 = some m.cls := findClass_of_methodNamed Bd.named
  have hnm := (name_of_methodNamed Bd.named Bd.method).1
  have X0 : Stand p l e ({ frames := 6, cells := 2, slots := 5, locals := 78 } : Room) s m #[(.ref ao), (.ref ae)] below meth c s₁ [] 0 0 := Stand.of_body Bd
  have e0 : s₁.heap = h0 := by rw [← hh, Bd.state]; rfl
  have N0 := Fr.nil n0
  refine own_fin (st' := s₁.setTop (mkF m 0 #[oR ao, oR ae] [])) (fun _ k => castTop (ef_rm14 m ao ae) k) (fun P hP => ?_)
  obtain ⟨T1, h1, X1, e1, E1, A1, D1, -, st1⟩ := newO X0 hx hZ hown (own_hw hw 72) (own_hw hw 73) (own_hw hw 70) e0 (g := (mkF m 0 #[oR ao, oR ae] [])) rfl (hb hby d14_0) (by decide) (by decide)
  obtain ⟨b1, g1⟩ : ∃ z, z = h0.size := ⟨_, rfl⟩
  rw [← g1] at A1 D1 st1
  have sz1 : h0.size ≤ h1.size := E1.1
  have lt1 : @LT.lt Nat _ b1 h1.size := A1.lt
  have f2 : Fld Z h1 b1 oS6 "m_nStatus" "I" (.int (0 : Int32)) := D1 (Or.inr (own_hw hw 114)) (ty := .int) (by decide)
  have f3 : Fld Z h1 b1 oS6 "m_aOut" oS12 .null := D1 (Or.inr (own_hw hw 116)) (ty := (.object oS11)) (by decide)
  have f4 : Fld Z h1 b1 oS6 "m_aErr" oS12 .null := D1 (Or.inr (own_hw hw 118)) (ty := (.object oS11)) (by decide)
  refine ow (oT T1 m 3 #[oR ao, oR ae] [(.ref b1)]) (st1) ?_
  refine ow (oT T1 m 4 #[oR ao, oR ae] [(.ref b1), (.ref b1)]) (fun _ k => XS.dup X1.here hx rfl (hb hby d14_3) rfl rfl k) ?_
  refine ow (oT T1 m 5 #[oR ao, oR ae] [(.int (0 : Int32)), (.ref b1), (.ref b1)]) (fun _ k => XS.iconst X1.here hx rfl (hb hby d14_4) k) ?_
  refine ow (oT T1 m 6 #[oR ao, oR ae] [(.ref ao), (.int (0 : Int32)), (.ref b1), (.ref b1)]) (fun _ k => XS.aloadN X1.here hx rfl (hb hby d14_5) rfl rfl k) ?_
  refine ow (oT T1 m 7 #[oR ao, oR ae] [(.ref ae), (.ref ao), (.int (0 : Int32)), (.ref b1), (.ref b1)]) (fun _ k => XS.aloadN X1.here hx rfl (hb hby d14_6) rfl rfl k) ?_
  have c6 : Sta Z h1 oS7 "EMPTY" oS5 (.ref em) := (pr1.ext E1)
  obtain ⟨_, _, ⟨T5, LC5, kC5, nC5⟩, -, X5, ⟨Lc5, hQ5, lq5, yq5, zq5⟩, st5⟩ := Jvm.LawKit.callS X1 hx (y := oM37) hown (mvT hZ (own_hw hw 74)) (mvT hZ (own_hw hw 75)) (mvT hZ (own_hw hw 76)) (mvT hZ (own_hw hw 77)) (by decide) (backOf (W := 4) (rm15 l Z a0 hw [] ae em h1 n0 (by omega) c6) hZ (own_hw hw 77) (own_hw hw 76) (by decide) (by decide)) (g := (mkF m 7 #[oR ao, oR ae] [(.ref ae), (.ref ao), (.int (0 : Int32)), (.ref b1), (.ref b1)])) rfl hml.symm (argsL := [(.ref ae)]) (rest := [(.ref ao), (.int (0 : Int32)), (.ref b1), (.ref b1)]) (lenOf pd_17 rfl) rfl (Nat.le_of_eq rfl) (hb hby d14_7) (fun _ _ => ⟨rfl, e1, (by decide : 1 + 1 ≤ _), (by decide : 3 + 2 ≤ _)⟩)
  dsimp only [Pt.U, Pt.locs, Pt.cells, Pt.slots] at X5 lq5 yq5 zq5 st5 hQ5
  subst lq5 yq5 zq5
  obtain ⟨h5, e5⟩ : ∃ z, T5.heap = z := ⟨_, rfl⟩
  rw [e5] at hQ5
  obtain ⟨r_5, rfl, Nq5, K5, g5_0, g5_1, g5_2, g5_3⟩ := hQ5
  have sz5 : h1.size ≤ h5.size := K5.1
  have N5 := Fr.app N0 Nq5
  have lt5_1 : @LT.lt Nat _ r_5 h5.size := g5_0.lt
  refine ow (oT T5 m 10 #[oR ao, oR ae] [(.ref r_5), (.ref ao), (.int (0 : Int32)), (.ref b1), (.ref b1)]) (fun t k => st5 t k) ?_
  have c8 : Exa Z h5 b1 oS6 := (A1.keep K5)
  have c9 : Fld Z h5 b1 oS6 "m_nStatus" "I" (.int (0 : Int32)) := (f2.keep K5 nin0)
  have c10 : Fld Z h5 b1 oS6 "m_aOut" oS12 .null := (f3.keep K5 nin0)
  have c11 : Fld Z h5 b1 oS6 "m_aErr" oS12 .null := (f4.keep K5 nin0)
  obtain ⟨_, _, ⟨T7, LC7, kC7, nC7⟩, -, X7, ⟨Lc7, hQ7, lq7, yq7, zq7⟩, st7⟩ := X5.specialBack hx (y := oM38) rfl hown (mvT hZ (own_hw hw 109)) (mvT hZ (own_hw hw 110)) (mvT hZ (own_hw hw 111)) (by decide) (backOf (W := 1) (rm20 l Z a0 hw [] b1 ao r_5 (0 : Int32) h5 n0 (by omega) c8 c9 c10 c11 (by omega)) hZ (own_hw hw 111) (own_hw hw 70) (by decide) (by decide)) (g := (mkF m 10 #[oR ao, oR ae] [(.ref r_5), (.ref ao), (.int (0 : Int32)), (.ref b1), (.ref b1)])) rfl hml.symm (Steps.refl _) (a := b1) (argsL := [(.int (0 : Int32)), (.ref ao), (.ref r_5)]) (rest := [(.ref b1)]) (lenOf pd_18 rfl) rfl (Nat.le_of_eq rfl) (hb hby d14_10) (fun _ _ => ⟨rfl, e5, (by decide : 2 + 0 ≤ _), (by decide : 5 + 0 ≤ _)⟩)
  dsimp only [Pt.U, Pt.locs, Pt.cells, Pt.slots] at X7 lq7 yq7 zq7 st7 hQ7
  subst lq7 yq7 zq7
  obtain ⟨h7, e7⟩ : ∃ z, T7.heap = z := ⟨_, rfl⟩
  rw [e7] at hQ7
  obtain ⟨rfl, Nq7, K7, g7_0, g7_1, g7_2, g7_3⟩ := hQ7
  have sz7 : h5.size ≤ h7.size := K7.1
  have N7 := Fr.app N5 Nq7
  have lt7_1 : @LT.lt Nat _ b1 h7.size := g7_0.lt
  refine ow (oT T7 m 13 #[oR ao, oR ae] [(.ref b1)]) (fun _ k => st7.trans k) ?_
  obtain ⟨fs, hr, hrun, hended, hW, hsame⟩ := X7.leave (v := some (.ref b1)) (fun h => by rw [Bd.returns] at h; cases h)
  refine ⟨_, _, ?_, hP _ _ hrun hended ⟨_, _, rfl, ?_, ⟨_, rfl⟩, hW, hsame.mono (by decide) (by decide)⟩⟩
  · exact retOut X7 hx Bd.returns rfl (Or.inr (Or.inr (Or.inr (Or.inr ⟨rfl, rfl, rfl⟩)))) (hb hby d14_13) hr
  ·
   show Qrm14 Z ao ae em h0 n0 _ T7.heap _
   have c13 : Exa Z h7 r_5 oS9 := (g5_0.keep K7)
   have c14 : Fld Z h7 r_5 oS9 "e0" oS5 (.ref ae) := (g5_1.keep K7 (ninS (own_ne (by omega)) nin0))
   have c15 : Fld Z h7 r_5 oS9 "e1" oS5 (.ref em) := (g5_2.keep K7 (ninS (own_ne (by omega)) nin0))
   rw [e7]
   exact ⟨b1, r_5, rfl, N7, ((((Keep.refl h0 []).ext E1).trans K5 all0).trans K7 (allS (P := fun x => x ∈ [] ∨ h0.size ≤ x) (Or.inr (by omega)) all0)), g7_0, g7_1, g7_2, g7_3, c13, c14, c15, (by omega), (by omega)⟩
theorem d21_0 : decode prog_49_method_7_code 0 = .ok (.aload_n 0, 1) := by decide +kernel
theorem d21_1 : decode prog_49_method_7_code 1 = .ok (.getfield 7, 3) := by decide +kernel
theorem d21_4 : decode prog_49_method_7_code 4 = .ok (.ireturn, 1) := by decide +kernel
theorem pn_21 : plainName "com/example/scatterkeep/scatterkeep/protocol/AccessPoint$Reply" = true := by first | (simp [plainName, overriddenIn]; done) | decide +kernel
theorem ef_rm21 (m : MethodId) (x0 : Addr) : entryFrame m #[(.ref x0)] 1 = mkF m 0 #[.val (.ref x0)] [] := by first | (simp [entryFrame, mkF, argsToLocals, Value.category]; done) | rfl
def Qrm21 (Z : State) (a1 : Addr) (zs : Int32) (h0 : Heap) (n0 : Nat) (v : Option Value) (h : Heap) (L : List Loc) : Prop := (v = some (.int zs)) ∧ (Fr n0 L) ∧ (h = h0)
set_option maxRecDepth 65536 in
set_option maxHeartbeats 40000000 in
theorem rm21 (l : Launch) (Z : State) (a0 : Array Value) (hw : ∀ d ∈ tables_1, d.before a0 Z = true) (ws : List Jvm.Cond) (a1 : Addr) (zs : Int32) (h0 : Heap) (n0 : Nat) (Z0 : n0 ≤ h0.size) (pr1 : Fld Z h0 a1 oS6 "m_nStatus" "I" (.int zs)) :
    MetFree l oM9 (head1 (Jvm.Cond.code oM9 prog_49_method_7_code 1 (some .int) :: ws) ({ frames := 0, cells := 0, slots := 0, locals := 0 } : Room)) (fun a U => a = #[(.ref a1)] ∧ Z.Warmed39 U.vm ∧ U.heap = h0) (fun _ _ _ _ _ => True) (fun _ U o U' => ∃ v L, o = .returned v ∧ Qrm21 Z a1 zs h0 n0 v U'.heap L ∧ FrameEnd U o U' L ({ frames := 0, cells := 0, slots := 0, locals := 0 } : Room).cells ({ frames := 0, cells := 0, slots := 0, locals := 0 } : Room).slots) := by
  refine MetFree.of_bodySF (plainFor_of_name pn_21) hisR ?_
  intro p e s m args below meth c s₁ Bd hml0 hP0 hK
  obtain ⟨rfl, hZ, hh⟩ := hP0
  have hx := Bd.exec
  have hby := Bd.bytes
  have hml : c.maxLocals = 1 := hml0
  have hown : s.vm.findClass oS6 = some m.cls := findClass_of_methodNamed Bd.named
  have hnm := (name_of_methodNamed Bd.named Bd.method).1
  have X0 : Stand p l e ({ frames := 0, cells := 0, slots := 0, locals := 0 } : Room) s m #[(.ref a1)] below meth c s₁ [] 0 0 := Stand.of_body Bd
  have e0 : s₁.heap = h0 := by rw [← hh, Bd.state]; rfl
  have N0 := Fr.nil n0
  refine own_fin (st' := s₁.setTop (mkF m 0 #[oR a1] [])) (fun _ k => castTop (ef_rm21 m a1) k) (fun P hP => ?_)
  have lt_a1 : @LT.lt Nat _ a1 h0.size := pr1.lt
  refine ow (oT s₁ m 1 #[oR a1] [(.ref a1)]) (fun _ k => XS.aloadN X0.here hx rfl (hb hby d21_0) rfl rfl k) ?_
  obtain ⟨T1, X1, e1, st1⟩ := getF X0 hx hZ hown (host := "") (Or.inl (own_hw hw 113)) Via.refl e0 pr1 (g := (mkF m 1 #[oR a1] [(.ref a1)])) rfl rfl (hb hby d21_1)
  refine ow (oT T1 m 4 #[oR a1] [(.int zs)]) (st1) ?_
  obtain ⟨fs, hr, hrun, hended, hW, hsame⟩ := X1.leave (v := some (.int zs)) (fun h => by rw [Bd.returns] at h; cases h)
  refine ⟨_, _, ?_, hP _ _ hrun hended ⟨_, _, rfl, ?_, ⟨_, rfl⟩, hW, hsame.mono (by decide) (by decide)⟩⟩
  · exact retOut X1 hx Bd.returns rfl (Or.inl ⟨rfl, Or.inl rfl, _, rfl⟩) (hb hby d21_4) hr
  ·
   show Qrm21 Z a1 zs h0 n0 _ T1.heap _
   rw [e1]
   exact ⟨rfl, N0, rfl⟩
theorem d22_0 : decode prog_49_method_9_code 0 = .ok (.aload_n 0, 1) := by decide +kernel
theorem d22_1 : decode prog_49_method_9_code 1 = .ok (.getfield 17, 3) := by decide +kernel
theorem d22_4 : decode prog_49_method_9_code 4 = .ok (.areturn, 1) := by decide +kernel
theorem pn_22 : plainName "com/example/scatterkeep/scatterkeep/protocol/AccessPoint$Reply" = true := by first | (simp [plainName, overriddenIn]; done) | decide +kernel
theorem ef_rm22 (m : MethodId) (x0 : Addr) : entryFrame m #[(.ref x0)] 1 = mkF m 0 #[.val (.ref x0)] [] := by first | (simp [entryFrame, mkF, argsToLocals, Value.category]; done) | rfl
def Qrm22 (Z : State) (a1 : Addr) (ar : Addr) (h0 : Heap) (n0 : Nat) (v : Option Value) (h : Heap) (L : List Loc) : Prop := (v = some (.ref ar)) ∧ (Fr n0 L) ∧ (h = h0)
set_option maxRecDepth 65536 in
set_option maxHeartbeats 40000000 in
theorem rm22 (l : Launch) (Z : State) (a0 : Array Value) (hw : ∀ d ∈ tables_1, d.before a0 Z = true) (ws : List Jvm.Cond) (a1 : Addr) (ar : Addr) (h0 : Heap) (n0 : Nat) (Z0 : n0 ≤ h0.size) (pr1 : Fld Z h0 a1 oS6 "m_aErr" oS12 (.ref ar)) :
    MetFree l oM10 (head1 (Jvm.Cond.code oM10 prog_49_method_9_code 1 (some (.object oS11)) :: ws) ({ frames := 0, cells := 0, slots := 0, locals := 0 } : Room)) (fun a U => a = #[(.ref a1)] ∧ Z.Warmed39 U.vm ∧ U.heap = h0) (fun _ _ _ _ _ => True) (fun _ U o U' => ∃ v L, o = .returned v ∧ Qrm22 Z a1 ar h0 n0 v U'.heap L ∧ FrameEnd U o U' L ({ frames := 0, cells := 0, slots := 0, locals := 0 } : Room).cells ({ frames := 0, cells := 0, slots := 0, locals := 0 } : Room).slots) := by
  refine MetFree.of_bodySF (plainFor_of_name pn_22) hisR ?_
  intro p e s m args below meth c s₁ Bd hml0 hP0 hK
  obtain ⟨rfl, hZ, hh⟩ := hP0
  have hx := Bd.exec
  have hby := Bd.bytes
  have hml : c.maxLocals = 1 := hml0
  have hown : s.vm.findClass oS6 = some m.cls := findClass_of_methodNamed Bd.named
  have hnm := (name_of_methodNamed Bd.named Bd.method).1
  have X0 : Stand p l e ({ frames := 0, cells := 0, slots := 0, locals := 0 } : Room) s m #[(.ref a1)] below meth c s₁ [] 0 0 := Stand.of_body Bd
  have e0 : s₁.heap = h0 := by rw [← hh, Bd.state]; rfl
  have N0 := Fr.nil n0
  refine own_fin (st' := s₁.setTop (mkF m 0 #[oR a1] [])) (fun _ k => castTop (ef_rm22 m a1) k) (fun P hP => ?_)
  have lt_a1 : @LT.lt Nat _ a1 h0.size := pr1.lt
  refine ow (oT s₁ m 1 #[oR a1] [(.ref a1)]) (fun _ k => XS.aloadN X0.here hx rfl (hb hby d22_0) rfl rfl k) ?_
  obtain ⟨T1, X1, e1, st1⟩ := getF X0 hx hZ hown (host := "") (Or.inl (own_hw hw 117)) Via.refl e0 pr1 (g := (mkF m 1 #[oR a1] [(.ref a1)])) rfl rfl (hb hby d22_1)
  refine ow (oT T1 m 4 #[oR a1] [(.ref ar)]) (st1) ?_
  obtain ⟨fs, hr, hrun, hended, hW, hsame⟩ := X1.leave (v := some (.ref ar)) (fun h => by rw [Bd.returns] at h; cases h)
  refine ⟨_, _, ?_, hP _ _ hrun hended ⟨_, _, rfl, ?_, ⟨_, rfl⟩, hW, hsame.mono (by decide) (by decide)⟩⟩
  · exact retOut X1 hx Bd.returns rfl (Or.inr (Or.inr (Or.inr (Or.inr ⟨rfl, rfl, rfl⟩)))) (hb hby d22_4) hr
  ·
   show Qrm22 Z a1 ar h0 n0 _ T1.heap _
   rw [e1]
   exact ⟨rfl, N0, rfl⟩
theorem d27_0 : decode prog_49_method_8_code 0 = .ok (.aload_n 0, 1) := by decide +kernel
theorem d27_1 : decode prog_49_method_8_code 1 = .ok (.getfield 13, 3) := by decide +kernel
theorem d27_4 : decode prog_49_method_8_code 4 = .ok (.areturn, 1) := by decide +kernel
theorem pn_27 : plainName "com/example/scatterkeep/scatterkeep/protocol/AccessPoint$Reply" = true := by first | (simp [plainName, overriddenIn]; done) | decide +kernel
theorem ef_rm27 (m : MethodId) (x0 : Addr) : entryFrame m #[(.ref x0)] 1 = mkF m 0 #[.val (.ref x0)] [] := by first | (simp [entryFrame, mkF, argsToLocals, Value.category]; done) | rfl
def Qrm27 (Z : State) (a1 : Addr) (ar : Addr) (h0 : Heap) (n0 : Nat) (v : Option Value) (h : Heap) (L : List Loc) : Prop := (v = some (.ref ar)) ∧ (Fr n0 L) ∧ (h = h0)
set_option maxRecDepth 65536 in
set_option maxHeartbeats 40000000 in
theorem rm27 (l : Launch) (Z : State) (a0 : Array Value) (hw : ∀ d ∈ tables_1, d.before a0 Z = true) (ws : List Jvm.Cond) (a1 : Addr) (ar : Addr) (h0 : Heap) (n0 : Nat) (Z0 : n0 ≤ h0.size) (pr1 : Fld Z h0 a1 oS6 "m_aOut" oS12 (.ref ar)) :
    MetFree l oM11 (head1 (Jvm.Cond.code oM11 prog_49_method_8_code 1 (some (.object oS11)) :: ws) ({ frames := 0, cells := 0, slots := 0, locals := 0 } : Room)) (fun a U => a = #[(.ref a1)] ∧ Z.Warmed39 U.vm ∧ U.heap = h0) (fun _ _ _ _ _ => True) (fun _ U o U' => ∃ v L, o = .returned v ∧ Qrm27 Z a1 ar h0 n0 v U'.heap L ∧ FrameEnd U o U' L ({ frames := 0, cells := 0, slots := 0, locals := 0 } : Room).cells ({ frames := 0, cells := 0, slots := 0, locals := 0 } : Room).slots) := by
  refine MetFree.of_bodySF (plainFor_of_name pn_27) hisR ?_
  intro p e s m args below meth c s₁ Bd hml0 hP0 hK
  obtain ⟨rfl, hZ, hh⟩ := hP0
  have hx := Bd.exec
  have hby := Bd.bytes
  have hml : c.maxLocals = 1 := hml0
  have hown : s.vm.findClass oS6 = some m.cls := findClass_of_methodNamed Bd.named
  have hnm := (name_of_methodNamed Bd.named Bd.method).1
  have X0 : Stand p l e ({ frames := 0, cells := 0, slots := 0, locals := 0 } : Room) s m #[(.ref a1)] below meth c s₁ [] 0 0 := Stand.of_body Bd
  have e0 : s₁.heap = h0 := by rw [← hh, Bd.state]; rfl
  have N0 := Fr.nil n0
  refine own_fin (st' := s₁.setTop (mkF m 0 #[oR a1] [])) (fun _ k => castTop (ef_rm27 m a1) k) (fun P hP => ?_)
  have lt_a1 : @LT.lt Nat _ a1 h0.size := pr1.lt
  refine ow (oT s₁ m 1 #[oR a1] [(.ref a1)]) (fun _ k => XS.aloadN X0.here hx rfl (hb hby d27_0) rfl rfl k) ?_
  obtain ⟨T1, X1, e1, st1⟩ := getF X0 hx hZ hown (host := "") (Or.inl (own_hw hw 115)) Via.refl e0 pr1 (g := (mkF m 1 #[oR a1] [(.ref a1)])) rfl rfl (hb hby d27_1)
  refine ow (oT T1 m 4 #[oR a1] [(.ref ar)]) (st1) ?_
  obtain ⟨fs, hr, hrun, hended, hW, hsame⟩ := X1.leave (v := some (.ref ar)) (fun h => by rw [Bd.returns] at h; cases h)
  refine ⟨_, _, ?_, hP _ _ hrun hended ⟨_, _, rfl, ?_, ⟨_, rfl⟩, hW, hsame.mono (by decide) (by decide)⟩⟩
  · exact retOut X1 hx Bd.returns rfl (Or.inr (Or.inr (Or.inr (Or.inr ⟨rfl, rfl, rfl⟩)))) (hb hby d27_4) hr
  ·
   show Qrm27 Z a1 ar h0 n0 _ T1.heap _
   rw [e1]
   exact ⟨rfl, N0, rfl⟩
theorem d23_0 : decode jdk_44_method_3_code 0 = .ok (.aload_n 0, 1) := by decide +kernel
theorem d23_1 : decode jdk_44_method_3_code 1 = .ok (.getfield 24, 3) := by decide +kernel
theorem d23_4 : decode jdk_44_method_3_code 4 = .ok (.getstatic 19, 3) := by decide +kernel
theorem d23_7 : decode jdk_44_method_3_code 7 = .ok (.if_acmp .eq 7, 3) := by decide +kernel
theorem d23_14 : decode jdk_44_method_3_code 14 = .ok (.iconst 1, 1) := by decide +kernel
theorem d23_15 : decode jdk_44_method_3_code 15 = .ok (.ireturn, 1) := by decide +kernel
theorem pn_23 : plainName "java/util/ImmutableCollections$List12" = true := by first | (simp [plainName, overriddenIn]; done) | decide +kernel
theorem ef_rm23 (m : MethodId) (x0 : Addr) : entryFrame m #[(.ref x0)] 1 = mkF m 0 #[.val (.ref x0)] [] := by first | (simp [entryFrame, mkF, argsToLocals, Value.category]; done) | rfl
def Qrm23 (Z : State) (a1 : Addr) (em : Addr) (h0 : Heap) (n0 : Nat) (v : Option Value) (h : Heap) (L : List Loc) : Prop := (v = some (.int (1 : Int32))) ∧ (Fr n0 L) ∧ (h = h0)
set_option maxRecDepth 65536 in
set_option maxHeartbeats 40000000 in
theorem rm23 (l : Launch) (Z : State) (a0 : Array Value) (hw : ∀ d ∈ tables_1, d.before a0 Z = true) (ws : List Jvm.Cond) (a1 : Addr) (em : Addr) (h0 : Heap) (n0 : Nat) (Z0 : n0 ≤ h0.size) (pr1 : Fld Z h0 a1 oS9 "e1" oS5 (.ref em)) (pr2 : Sta Z h0 oS7 "EMPTY" oS5 (.ref em)) :
    MetFree l oM20 (head1 (Jvm.Cond.code oM20 jdk_44_method_3_code 1 (some .int) :: ws) ({ frames := 0, cells := 0, slots := 0, locals := 0 } : Room)) (fun a U => a = #[(.ref a1)] ∧ Z.Warmed39 U.vm ∧ U.heap = h0) (fun _ _ _ _ _ => True) (fun _ U o U' => ∃ v L, o = .returned v ∧ Qrm23 Z a1 em h0 n0 v U'.heap L ∧ FrameEnd U o U' L ({ frames := 0, cells := 0, slots := 0, locals := 0 } : Room).cells ({ frames := 0, cells := 0, slots := 0, locals := 0 } : Room).slots) := by
  refine MetFree.of_bodySF (plainFor_of_name pn_23) hisR ?_
  intro p e s m args below meth c s₁ Bd hml0 hP0 hK
  obtain ⟨rfl, hZ, hh⟩ := hP0
  have hx := Bd.exec
  have hby := Bd.bytes
  have hml : c.maxLocals = 1 := hml0
  have hown : s.vm.findClass oS9 = some m.cls := findClass_of_methodNamed Bd.named
  have hnm := (name_of_methodNamed Bd.named Bd.method).1
  have X0 : Stand p l e ({ frames := 0, cells := 0, slots := 0, locals := 0 } : Room) s m #[(.ref a1)] below meth c s₁ [] 0 0 := Stand.of_body Bd
  have e0 : s₁.heap = h0 := by rw [← hh, Bd.state]; rfl
  have N0 := Fr.nil n0
  refine own_fin (st' := s₁.setTop (mkF m 0 #[oR a1] [])) (fun _ k => castTop (ef_rm23 m a1) k) (fun P hP => ?_)
  have lt_a1 : @LT.lt Nat _ a1 h0.size := pr1.lt
  refine ow (oT s₁ m 1 #[oR a1] [(.ref a1)]) (fun _ k => XS.aloadN X0.here hx rfl (hb hby d23_0) rfl rfl k) ?_
  obtain ⟨T1, X1, e1, st1⟩ := getF X0 hx hZ hown (host := "") (Or.inl (own_hw hw 107)) Via.refl e0 pr1 (g := (mkF m 1 #[oR a1] [(.ref a1)])) rfl rfl (hb hby d23_1)
  refine ow (oT T1 m 4 #[oR a1] [(.ref em)]) (st1) ?_
  obtain ⟨T2, X2, e2, st2⟩ := getS2 X1 hx hZ hown (Or.inr (own_hw hw 105)) Via.refl e1 pr2 (g := (mkF m 4 #[oR a1] [(.ref em)])) rfl (hb hby d23_4)
  refine ow (oT T2 m 7 #[oR a1] [(.ref em), (.ref em)]) (st2) ?_
  refine ow (oT T2 m 14 #[oR a1] []) (fun _ k => Jvm.RoadKit.acmp (g := (mkF m 7 #[oR a1] [(.ref em), (.ref em)])) X2 hx rfl rfl rfl (pc0 := 7) (pc' := 14) (same := true) rfl (hb hby d23_7) rfl (decide_eq_true rfl) (by decide) (by decide) k) ?_
  refine ow (oT T2 m 15 #[oR a1] [(.int (1 : Int32))]) (fun _ k => XS.iconst X2.here hx rfl (hb hby d23_14) k) ?_
  obtain ⟨fs, hr, hrun, hended, hW, hsame⟩ := X2.leave (v := some (.int (1 : Int32))) (fun h => by rw [Bd.returns] at h; cases h)
  refine ⟨_, _, ?_, hP _ _ hrun hended ⟨_, _, rfl, ?_, ⟨_, rfl⟩, hW, hsame.mono (by decide) (by decide)⟩⟩
  · exact retOut X2 hx Bd.returns rfl (Or.inl ⟨rfl, Or.inl rfl, _, rfl⟩) (hb hby d23_15) hr
  ·
   show Qrm23 Z a1 em h0 n0 _ T2.heap _
   rw [e2]
   exact ⟨rfl, N0, rfl⟩
theorem d24_0 : decode jdk_44_method_5_code 0 = .ok (.iload_n 1, 1) := by decide +kernel
theorem d24_1 : decode jdk_44_method_5_code 1 = .ok (.ifCond .ne 8, 3) := by decide +kernel
theorem d24_4 : decode jdk_44_method_5_code 4 = .ok (.aload_n 0, 1) := by decide +kernel
theorem d24_5 : decode jdk_44_method_5_code 5 = .ok (.getfield 13, 3) := by decide +kernel
theorem d24_8 : decode jdk_44_method_5_code 8 = .ok (.areturn, 1) := by decide +kernel
theorem pn_24 : plainName "java/util/ImmutableCollections$List12" = true := by first | (simp [plainName, overriddenIn]; done) | decide +kernel
theorem ef_rm24 (m : MethodId) (x0 : Addr) (x1 : Int32) : entryFrame m #[(.ref x0), (.int x1)] 2 = mkF m 0 #[.val (.ref x0), .val (.int x1)] [] := by first | (simp [entryFrame, mkF, argsToLocals, Value.category]; done) | rfl
def Qrm24 (Z : State) (a1 : Addr) (ae : Addr) (h0 : Heap) (n0 : Nat) (v : Option Value) (h : Heap) (L : List Loc) : Prop := (v = some (.ref ae)) ∧ (Fr n0 L) ∧ (h = h0)
set_option maxRecDepth 65536 in
set_option maxHeartbeats 40000000 in
theorem rm24 (l : Launch) (Z : State) (a0 : Array Value) (hw : ∀ d ∈ tables_1, d.before a0 Z = true) (ws : List Jvm.Cond) (a1 : Addr) (ae : Addr) (h0 : Heap) (n0 : Nat) (Z0 : n0 ≤ h0.size) (pr1 : Fld Z h0 a1 oS9 "e0" oS5 (.ref ae)) :
    MetFree l oM21 (head1 (Jvm.Cond.code oM21 jdk_44_method_5_code 2 (some (.object oS2)) :: ws) ({ frames := 0, cells := 0, slots := 0, locals := 0 } : Room)) (fun a U => a = #[(.ref a1), (.int (0 : Int32))] ∧ Z.Warmed39 U.vm ∧ U.heap = h0) (fun _ _ _ _ _ => True) (fun _ U o U' => ∃ v L, o = .returned v ∧ Qrm24 Z a1 ae h0 n0 v U'.heap L ∧ FrameEnd U o U' L ({ frames := 0, cells := 0, slots := 0, locals := 0 } : Room).cells ({ frames := 0, cells := 0, slots := 0, locals := 0 } : Room).slots) := by
  refine MetFree.of_bodySF (plainFor_of_name pn_24) hisR ?_
  intro p e s m args below meth c s₁ Bd hml0 hP0 hK
  obtain ⟨rfl, hZ, hh⟩ := hP0
  have hx := Bd.exec
  have hby := Bd.bytes
  have hml : c.maxLocals = 2 := hml0
  have hown : s.vm.findClass oS9 = some m.cls := findClass_of_methodNamed Bd.named
  have hnm := (name_of_methodNamed Bd.named Bd.method).1
  have X0 : Stand p l e ({ frames := 0, cells := 0, slots := 0, locals := 0 } : Room) s m #[(.ref a1), (.int (0 : Int32))] below meth c s₁ [] 0 0 := Stand.of_body Bd
  have e0 : s₁.heap = h0 := by rw [← hh, Bd.state]; rfl
  have N0 := Fr.nil n0
  refine own_fin (st' := s₁.setTop (mkF m 0 #[oR a1, oi 0] [])) (fun _ k => castTop (ef_rm24 m a1 (0 : Int32)) k) (fun P hP => ?_)
  have lt_a1 : @LT.lt Nat _ a1 h0.size := pr1.lt
  refine ow (oT s₁ m 1 #[oR a1, oi 0] [(.int (0 : Int32))]) (fun _ k => XS.iloadN X0.here hx rfl (hb hby d24_0) rfl k) ?_
  have hc1 : (0 : Int32) = (0 : Int32) := by decide
  refine ow (oT s₁ m 4 #[oR a1, oi 0] []) (fun _ k => XS.ifNo X0.here hx rfl (hb hby d24_1) rfl ((if0 _ _).trans (teq hc1).2) k) ?_
  refine ow (oT s₁ m 5 #[oR a1, oi 0] [(.ref a1)]) (fun _ k => XS.aloadN X0.here hx rfl (hb hby d24_4) rfl rfl k) ?_
  obtain ⟨T2, X2, e2, st2⟩ := getF X0 hx hZ hown (host := "") (Or.inl (own_hw hw 103)) Via.refl e0 pr1 (g := (mkF m 5 #[oR a1, oi 0] [(.ref a1)])) rfl rfl (hb hby d24_5)
  refine ow (oT T2 m 8 #[oR a1, oi 0] [(.ref ae)]) (st2) ?_
  obtain ⟨fs, hr, hrun, hended, hW, hsame⟩ := X2.leave (v := some (.ref ae)) (fun h => by rw [Bd.returns] at h; cases h)
  refine ⟨_, _, ?_, hP _ _ hrun hended ⟨_, _, rfl, ?_, ⟨_, rfl⟩, hW, hsame.mono (by decide) (by decide)⟩⟩
  · exact retOut X2 hx Bd.returns rfl (Or.inr (Or.inr (Or.inr (Or.inr ⟨rfl, rfl, rfl⟩)))) (hb hby d24_8) hr
  ·
   show Qrm24 Z a1 ae h0 n0 _ T2.heap _
   rw [e2]
   exact ⟨rfl, N0, rfl⟩
theorem pd_19 : parseMethodDescriptor "(C)Ljava/lang/String;" = some ⟨[.char], some (.object "java/lang/String")⟩ := by decide +kernel
theorem pd_20 : parseMethodDescriptor "([C)V" = some ⟨[(.array .char)], none⟩ := by decide +kernel
theorem pd_21 : parseMethodDescriptor "(Ljava/util/List;Ljava/lang/String;)Lcom/example/scatterkeep/scatterkeep/protocol/AccessPoint$Reply;" = some ⟨[(.object "java/util/List"), (.object "java/lang/String")], some (.object "com/example/scatterkeep/scatterkeep/protocol/AccessPoint$Reply")⟩ := by decide +kernel
theorem pd_22 : parseMethodDescriptor "()I" = some ⟨[], some .int⟩ := by decide +kernel
theorem pd_23 : parseMethodDescriptor "()Ljava/util/List;" = some ⟨[], some (.object "java/util/List")⟩ := by decide +kernel
theorem pd_24 : parseMethodDescriptor "(Ljava/lang/Object;)Z" = some ⟨[(.object "java/lang/Object")], some .boolean⟩ := by decide +kernel
theorem pn_0 : plainName "com/example/scatterkeep/scatterkeep/protocol/ReplyDoneWithWarningPinLaw" = true := by first | (simp [plainName, overriddenIn]; done) | decide +kernel
theorem ef_rm0 (m : MethodId) (x0 : Int32) (x1 : Int32) (x2 : Int32) (x3 : Int32) : entryFrame m #[(.int x0), (.int x1), (.int x2), (.int x3)] maxLocals = mkF m 0 #[.val (.int x0), .val (.int x1), .val (.int x2), .val (.int x3), .unset, .unset, .unset, .unset, .unset, .unset, .unset, .unset, .unset, .unset, .unset, .unset, .unset, .unset, .unset, .unset, .unset, .unset] [] := by first | (simp [entryFrame, mkF, argsToLocals, Value.category, maxLocals]; done) | rfl
def Qrm0 (Z : State) (p0 : Int32) (p1 : Int32) (p2 : Int32) (p3 : Int32) (de : Addr) (kde : ClassId) (em : Addr) (zc : Int32) (h0 : Heap) (n0 : Nat) (v : Option Value) (h : Heap) (L : List Loc) : Prop := v = some (.int 1) ∧ Fr n0 L ∧ True
set_option maxRecDepth 65536 in
set_option maxHeartbeats 40000000 in
theorem rm0 (l : Launch) (Z : State) (a0 : Array Value) (hw : ∀ d ∈ tables_1, d.before a0 Z = true) (ws : List Jvm.Cond) (p0 : Int32) (p1 : Int32) (p2 : Int32) (p3 : Int32) (de : Addr) (kde : ClassId) (em : Addr) (zc : Int32) (h0 : Heap) (n0 : Nat) (Z0 : n0 ≤ h0.size) (pr1 : Sta Z h0 oS0 oS4 "Z" (.int zc)) (hzc : ¬ zc = (0 : Int32)) (pr2 : Sta Z h0 oS1 oS10 oS3 (.ref de)) (pr3 : Arv Z h0 de kde (.object oS2) (0 : Int32) [] .null) (pr4 : Sta Z h0 oS7 "EMPTY" oS5 (.ref em)) :
    MetFree l x (head1 (Jvm.Cond.code x code maxLocals ret :: ws) room_1) (fun a U => a = #[(.int p0), (.int p1), (.int p2), (.int p3)] ∧ Z.Warmed39 U.vm ∧ U.heap = h0 ∧ CHv Z own_EL U.vm h0) (fun _ _ _ _ _ => True) (fun _ U o U' => ∃ v L, o = .returned v ∧ Qrm0 Z p0 p1 p2 p3 de kde em zc h0 n0 v U'.heap L ∧ ReturnedEndW U o U' L 64 1280) := by
  refine MetFree.of_bodySF (plainFor_of_name pn_0) hisR ?_
  intro p e s m args below meth c s₁ Bd hml0 hP0 hK
  obtain ⟨rfl, hZ, hh, hC0⟩ := hP0
  have hx := Bd.exec
  have hby := Bd.bytes
  have hml : c.maxLocals = 22 := hml0
  have hown : s.vm.findClass oS14 = some m.cls := findClass_of_methodNamed Bd.named
  have hnm := (name_of_methodNamed Bd.named Bd.method).1
  have X0 : Stand p l e room_1 (s.setVm s.vm) m #[(.int p0), (.int p1), (.int p2), (.int p3)] below meth c s₁ [] 0 0 := Stand.of_body Bd
  have hS0 : s.Since s.vm h0.size := (State.WarmedH.refl s).since _
  have hZ : Z.Warmed39 (s.setVm s.vm).vm := hZ
  have hown : (s.setVm s.vm).vm.findClass oS14 = some m.cls := hown
  have e0 : s₁.heap = h0 := by rw [← hh, Bd.state]; rfl
  have N0 := Fr.nil n0
  refine own_fin (st' := s₁.setTop (mkF m 0 #[oi p0, oi p1, oi p2, oi p3, .unset, .unset, .unset, .unset, .unset, .unset, .unset, .unset, .unset, .unset, .unset, .unset, .unset, .unset, .unset, .unset, .unset, .unset] [])) (fun _ k => castTop (ef_rm0 m p0 p1 p2 p3) k) (fun P hP => ?_)
  have hEL : EW Z a0 own_EL := own_ew hw
  have A0 : CHr Z own_EL s.vm h0 s.vm h0 := CHr.refl hC0
  have lt_de : @LT.lt Nat _ de h0.size := pr3.lt
  refine ow (oT s₁ m 1 #[oi p0, oi p1, oi p2, oi p3, .unset, .unset, .unset, .unset, .unset, .unset, .unset, .unset, .unset, .unset, .unset, .unset, .unset, .unset, .unset, .unset, .unset, .unset] [(.int p0)]) (fun _ k => XS.iloadN X0.here hx rfl (hb hby at_0) rfl k) ?_
  refine ow (oT s₁ m 2 #[oi p0, oi p1, oi p2, oi p3, .unset, .unset, .unset, .unset, .unset, .unset, .unset, .unset, .unset, .unset, .unset, .unset, .unset, .unset, .unset, .unset, .unset, .unset] [(.int (3 : Int32)), (.int p0)]) (fun _ k => XS.iconst X0.here hx rfl (hb hby at_1) k) ?_
  obtain ⟨n4, hn4⟩ : ∃ z : Int32, z = (p0 &&& (3 : Int32)) := ⟨_, rfl⟩
  refine ow (oT s₁ m 3 #[oi p0, oi p1, oi p2, oi p3, .unset, .unset, .unset, .unset, .unset, .unset, .unset, .unset, .unset, .unset, .unset, .unset, .unset, .unset, .unset, .unset, .unset, .unset] [(.int n4)]) (fun _ k => XS.iand X0.here hx rfl (hb hby at_2) rfl (by rw [hn4] at k; exact k)) ?_
  have ht_n4 : n4 = 0 ∨ n4 = 1 ∨ n4 = 2 ∨ n4 = 3 := by rw [hn4]; exact own_and3 _
  refine ow (oT s₁ m 5 #[oi p0, oi p1, oi p2, oi p3, oi n4, .unset, .unset, .unset, .unset, .unset, .unset, .unset, .unset, .unset, .unset, .unset, .unset, .unset, .unset, .unset, .unset, .unset] []) (fun _ k => XS.istore X0.here hx rfl (hb hby at_3) rfl (l' := #[oi p0, oi p1, oi p2, oi p3, oi n4, .unset, .unset, .unset, .unset, .unset, .unset, .unset, .unset, .unset, .unset, .unset, .unset, .unset, .unset, .unset, .unset, .unset]) rfl k) ?_
  refine ow (oT s₁ m 6 #[oi p0, oi p1, oi p2, oi p3, oi n4, .unset, .unset, .unset, .unset, .unset, .unset, .unset, .unset, .unset, .unset, .unset, .unset, .unset, .unset, .unset, .unset, .unset] [(.int p1)]) (fun _ k => XS.iloadN X0.here hx rfl (hb hby at_5) rfl k) ?_
  refine ow (oT s₁ m 9 #[oi p0, oi p1, oi p2, oi p3, oi n4, .unset, .unset, .unset, .unset, .unset, .unset, .unset, .unset, .unset, .unset, .unset, .unset, .unset, .unset, .unset, .unset, .unset] [(.int (255 : Int32)), (.int p1)]) (fun _ k => XS.sipush X0.here hx rfl (hb hby at_6) k) ?_
  refine ow (oT s₁ m 10 #[oi p0, oi p1, oi p2, oi p3, oi n4, .unset, .unset, .unset, .unset, .unset, .unset, .unset, .unset, .unset, .unset, .unset, .unset, .unset, .unset, .unset, .unset, .unset] [(.int (p1 &&& (255 : Int32)))]) (fun _ k => XS.iand X0.here hx rfl (hb hby at_9) rfl k) ?_
  obtain ⟨u5, hu5⟩ : ∃ z : Int32, z = (p1 &&& (255 : Int32)).toUInt32.toUInt16.toUInt32.toInt32 := ⟨_, rfl⟩
  refine ow (oT s₁ m 11 #[oi p0, oi p1, oi p2, oi p3, oi n4, .unset, .unset, .unset, .unset, .unset, .unset, .unset, .unset, .unset, .unset, .unset, .unset, .unset, .unset, .unset, .unset, .unset] [(.int u5)]) (fun _ k => XS.i2c X0.here hx rfl (hb hby at_10) rfl (by rw [hu5] at k; exact k)) ?_
  have hl_u5 : own_lat u5 := by rw [hu5]; exact own_lat_and _
  refine ow (oT s₁ m 13 #[oi p0, oi p1, oi p2, oi p3, oi n4, oi u5, .unset, .unset, .unset, .unset, .unset, .unset, .unset, .unset, .unset, .unset, .unset, .unset, .unset, .unset, .unset, .unset] []) (fun _ k => XS.istore X0.here hx rfl (hb hby at_11) rfl (l' := #[oi p0, oi p1, oi p2, oi p3, oi n4, oi u5, .unset, .unset, .unset, .unset, .unset, .unset, .unset, .unset, .unset, .unset, .unset, .unset, .unset, .unset, .unset, .unset]) rfl k) ?_
  refine ow (oT s₁ m 14 #[oi p0, oi p1, oi p2, oi p3, oi n4, oi u5, .unset, .unset, .unset, .unset, .unset, .unset, .unset, .unset, .unset, .unset, .unset, .unset, .unset, .unset, .unset, .unset] [(.int p1)]) (fun _ k => XS.iloadN X0.here hx rfl (hb hby at_13) rfl k) ?_
  refine ow (oT s₁ m 16 #[oi p0, oi p1, oi p2, oi p3, oi n4, oi u5, .unset, .unset, .unset, .unset, .unset, .unset, .unset, .unset, .unset, .unset, .unset, .unset, .unset, .unset, .unset, .unset] [(.int (8 : Int32)), (.int p1)]) (fun _ k => XS.bipush X0.here hx rfl (hb hby at_14) k) ?_
  refine ow (oT s₁ m 17 #[oi p0, oi p1, oi p2, oi p3, oi n4, oi u5, .unset, .unset, .unset, .unset, .unset, .unset, .unset, .unset, .unset, .unset, .unset, .unset, .unset, .unset, .unset, .unset] [(.int ((p1.toUInt32 >>> ((8 : Int32) &&& 31).toUInt32).toInt32))]) (fun _ k => XS.iushr X0.here hx rfl (hb hby at_16) rfl k) ?_
  refine ow (oT s₁ m 20 #[oi p0, oi p1, oi p2, oi p3, oi n4, oi u5, .unset, .unset, .unset, .unset, .unset, .unset, .unset, .unset, .unset, .unset, .unset, .unset, .unset, .unset, .unset, .unset] [(.int (255 : Int32)), (.int ((p1.toUInt32 >>> ((8 : Int32) &&& 31).toUInt32).toInt32))]) (fun _ k => XS.sipush X0.here hx rfl (hb hby at_17) k) ?_
  refine ow (oT s₁ m 21 #[oi p0, oi p1, oi p2, oi p3, oi n4, oi u5, .unset, .unset, .unset, .unset, .unset, .unset, .unset, .unset, .unset, .unset, .unset, .unset, .unset, .unset, .unset, .unset] [(.int (((p1.toUInt32 >>> ((8 : Int32) &&& 31).toUInt32).toInt32) &&& (255 : Int32)))]) (fun _ k => XS.iand X0.here hx rfl (hb hby at_20) rfl k) ?_
  obtain ⟨u6, hu6⟩ : ∃ z : Int32, z = (((p1.toUInt32 >>> ((8 : Int32) &&& 31).toUInt32).toInt32) &&& (255 : Int32)).toUInt32.toUInt16.toUInt32.toInt32 := ⟨_, rfl⟩
  refine ow (oT s₁ m 22 #[oi p0, oi p1, oi p2, oi p3, oi n4, oi u5, .unset, .unset, .unset, .unset, .unset, .unset, .unset, .unset, .unset, .unset, .unset, .unset, .unset, .unset, .unset, .unset] [(.int u6)]) (fun _ k => XS.i2c X0.here hx rfl (hb hby at_21) rfl (by rw [hu6] at k; exact k)) ?_
  have hl_u6 : own_lat u6 := by rw [hu6]; exact own_lat_and _
  refine ow (oT s₁ m 24 #[oi p0, oi p1, oi p2, oi p3, oi n4, oi u5, oi u6, .unset, .unset, .unset, .unset, .unset, .unset, .unset, .unset, .unset, .unset, .unset, .unset, .unset, .unset, .unset] []) (fun _ k => XS.istore X0.here hx rfl (hb hby at_22) rfl (l' := #[oi p0, oi p1, oi p2, oi p3, oi n4, oi u5, oi u6, .unset, .unset, .unset, .unset, .unset, .unset, .unset, .unset, .unset, .unset, .unset, .unset, .unset, .unset, .unset]) rfl k) ?_
  refine ow (oT s₁ m 25 #[oi p0, oi p1, oi p2, oi p3, oi n4, oi u5, oi u6, .unset, .unset, .unset, .unset, .unset, .unset, .unset, .unset, .unset, .unset, .unset, .unset, .unset, .unset, .unset] [(.int p1)]) (fun _ k => XS.iloadN X0.here hx rfl (hb hby at_24) rfl k) ?_
  refine ow (oT s₁ m 27 #[oi p0, oi p1, oi p2, oi p3, oi n4, oi u5, oi u6, .unset, .unset, .unset, .unset, .unset, .unset, .unset, .unset, .unset, .unset, .unset, .unset, .unset, .unset, .unset] [(.int (16 : Int32)), (.int p1)]) (fun _ k => XS.bipush X0.here hx rfl (hb hby at_25) k) ?_
  refine ow (oT s₁ m 28 #[oi p0, oi p1, oi p2, oi p3, oi n4, oi u5, oi u6, .unset, .unset, .unset, .unset, .unset, .unset, .unset, .unset, .unset, .unset, .unset, .unset, .unset, .unset, .unset] [(.int ((p1.toUInt32 >>> ((16 : Int32) &&& 31).toUInt32).toInt32))]) (fun _ k => XS.iushr X0.here hx rfl (hb hby at_27) rfl k) ?_
  refine ow (oT s₁ m 31 #[oi p0, oi p1, oi p2, oi p3, oi n4, oi u5, oi u6, .unset, .unset, .unset, .unset, .unset, .unset, .unset, .unset, .unset, .unset, .unset, .unset, .unset, .unset, .unset] [(.int (255 : Int32)), (.int ((p1.toUInt32 >>> ((16 : Int32) &&& 31).toUInt32).toInt32))]) (fun _ k => XS.sipush X0.here hx rfl (hb hby at_28) k) ?_
  refine ow (oT s₁ m 32 #[oi p0, oi p1, oi p2, oi p3, oi n4, oi u5, oi u6, .unset, .unset, .unset, .unset, .unset, .unset, .unset, .unset, .unset, .unset, .unset, .unset, .unset, .unset, .unset] [(.int (((p1.toUInt32 >>> ((16 : Int32) &&& 31).toUInt32).toInt32) &&& (255 : Int32)))]) (fun _ k => XS.iand X0.here hx rfl (hb hby at_31) rfl k) ?_
  obtain ⟨u7, hu7⟩ : ∃ z : Int32, z = (((p1.toUInt32 >>> ((16 : Int32) &&& 31).toUInt32).toInt32) &&& (255 : Int32)).toUInt32.toUInt16.toUInt32.toInt32 := ⟨_, rfl⟩
  refine ow (oT s₁ m 33 #[oi p0, oi p1, oi p2, oi p3, oi n4, oi u5, oi u6, .unset, .unset, .unset, .unset, .unset, .unset, .unset, .unset, .unset, .unset, .unset, .unset, .unset, .unset, .unset] [(.int u7)]) (fun _ k => XS.i2c X0.here hx rfl (hb hby at_32) rfl (by rw [hu7] at k; exact k)) ?_
  have hl_u7 : own_lat u7 := by rw [hu7]; exact own_lat_and _
  refine ow (oT s₁ m 35 #[oi p0, oi p1, oi p2, oi p3, oi n4, oi u5, oi u6, oi u7, .unset, .unset, .unset, .unset, .unset, .unset, .unset, .unset, .unset, .unset, .unset, .unset, .unset, .unset] []) (fun _ k => XS.istore X0.here hx rfl (hb hby at_33) rfl (l' := #[oi p0, oi p1, oi p2, oi p3, oi n4, oi u5, oi u6, oi u7, .unset, .unset, .unset, .unset, .unset, .unset, .unset, .unset, .unset, .unset, .unset, .unset, .unset, .unset]) rfl k) ?_
  refine ow (oT s₁ m 36 #[oi p0, oi p1, oi p2, oi p3, oi n4, oi u5, oi u6, oi u7, .unset, .unset, .unset, .unset, .unset, .unset, .unset, .unset, .unset, .unset, .unset, .unset, .unset, .unset] [(.int p1)]) (fun _ k => XS.iloadN X0.here hx rfl (hb hby at_35) rfl k) ?_
  refine ow (oT s₁ m 38 #[oi p0, oi p1, oi p2, oi p3, oi n4, oi u5, oi u6, oi u7, .unset, .unset, .unset, .unset, .unset, .unset, .unset, .unset, .unset, .unset, .unset, .unset, .unset, .unset] [(.int (24 : Int32)), (.int p1)]) (fun _ k => XS.bipush X0.here hx rfl (hb hby at_36) k) ?_
  refine ow (oT s₁ m 39 #[oi p0, oi p1, oi p2, oi p3, oi n4, oi u5, oi u6, oi u7, .unset, .unset, .unset, .unset, .unset, .unset, .unset, .unset, .unset, .unset, .unset, .unset, .unset, .unset] [(.int ((p1.toUInt32 >>> ((24 : Int32) &&& 31).toUInt32).toInt32))]) (fun _ k => XS.iushr X0.here hx rfl (hb hby at_38) rfl k) ?_
  refine ow (oT s₁ m 42 #[oi p0, oi p1, oi p2, oi p3, oi n4, oi u5, oi u6, oi u7, .unset, .unset, .unset, .unset, .unset, .unset, .unset, .unset, .unset, .unset, .unset, .unset, .unset, .unset] [(.int (255 : Int32)), (.int ((p1.toUInt32 >>> ((24 : Int32) &&& 31).toUInt32).toInt32))]) (fun _ k => XS.sipush X0.here hx rfl (hb hby at_39) k) ?_
  refine ow (oT s₁ m 43 #[oi p0, oi p1, oi p2, oi p3, oi n4, oi u5, oi u6, oi u7, .unset, .unset, .unset, .unset, .unset, .unset, .unset, .unset, .unset, .unset, .unset, .unset, .unset, .unset] [(.int (((p1.toUInt32 >>> ((24 : Int32) &&& 31).toUInt32).toInt32) &&& (255 : Int32)))]) (fun _ k => XS.iand X0.here hx rfl (hb hby at_42) rfl k) ?_
  obtain ⟨u8, hu8⟩ : ∃ z : Int32, z = (((p1.toUInt32 >>> ((24 : Int32) &&& 31).toUInt32).toInt32) &&& (255 : Int32)).toUInt32.toUInt16.toUInt32.toInt32 := ⟨_, rfl⟩
  refine ow (oT s₁ m 44 #[oi p0, oi p1, oi p2, oi p3, oi n4, oi u5, oi u6, oi u7, .unset, .unset, .unset, .unset, .unset, .unset, .unset, .unset, .unset, .unset, .unset, .unset, .unset, .unset] [(.int u8)]) (fun _ k => XS.i2c X0.here hx rfl (hb hby at_43) rfl (by rw [hu8] at k; exact k)) ?_
  have hl_u8 : own_lat u8 := by rw [hu8]; exact own_lat_and _
  refine ow (oT s₁ m 46 #[oi p0, oi p1, oi p2, oi p3, oi n4, oi u5, oi u6, oi u7, oi u8, .unset, .unset, .unset, .unset, .unset, .unset, .unset, .unset, .unset, .unset, .unset, .unset, .unset] []) (fun _ k => XS.istore X0.here hx rfl (hb hby at_44) rfl (l' := #[oi p0, oi p1, oi p2, oi p3, oi n4, oi u5, oi u6, oi u7, oi u8, .unset, .unset, .unset, .unset, .unset, .unset, .unset, .unset, .unset, .unset, .unset, .unset, .unset]) rfl k) ?_
  refine ow (oT s₁ m 48 #[oi p0, oi p1, oi p2, oi p3, oi n4, oi u5, oi u6, oi u7, oi u8, .unset, .unset, .unset, .unset, .unset, .unset, .unset, .unset, .unset, .unset, .unset, .unset, .unset] [(.int u5)]) (fun _ k => XS.iload X0.here hx rfl (hb hby at_46) rfl k) ?_
  obtain ⟨_, _, ⟨T1, LC1, kC1, nC1⟩, -, X1, ⟨Lc1, hQ1, lq1, yq1, zq1⟩, st1⟩ := Jvm.LawKit.callS X0 hx (y := oM23) hown (mvT hZ (own_hw hw 0)) (mvT hZ (own_hw hw 1)) (mvT hZ (own_hw hw 2)) (mvT hZ (own_hw hw 3)) (by decide) (backOf (W := 0) (rm1 l Z a0 hw [] zc u5 h0 n0 (by omega) pr1 (by assumption) hl_u5) hZ (own_hw hw 3) (own_hw hw 2) (by decide) (by decide)) (g := (mkF m 48 #[oi p0, oi p1, oi p2, oi p3, oi n4, oi u5, oi u6, oi u7, oi u8, .unset, .unset, .unset, .unset, .unset, .unset, .unset, .unset, .unset, .unset, .unset, .unset, .unset] [(.int u5)])) rfl hml.symm (argsL := [(.int u5)]) (rest := []) (lenOf pd_19 rfl) rfl (Nat.le_of_eq rfl) (hb hby at_48) (fun _ _ => ⟨rfl, e0, (by decide : 0 + 2 ≤ _), (by decide : 0 + 5 ≤ _)⟩)
  dsimp only [Pt.U, Pt.locs, Pt.cells, Pt.slots] at X1 lq1 yq1 zq1 st1 hQ1
  subst lq1 yq1 zq1
  obtain ⟨h1, e1⟩ : ∃ z, T1.heap = z := ⟨_, rfl⟩
  rw [e1] at hQ1
  obtain ⟨a1_1, r_1, kr_1, rfl, Nq1, K1, g1_0, g1_1, g1_2, g1_3, g1_4, g1_5⟩ := hQ1
  have sz1 : h0.size ≤ h1.size := K1.1
  have N1 := Fr.app N0 Nq1
  have lt1_1 : @LT.lt Nat _ a1_1 h1.size := g1_0.lt
  have lt1_2 : @LT.lt Nat _ r_1 h1.size := g1_3.lt
  refine ow (oT T1 m 51 #[oi p0, oi p1, oi p2, oi p3, oi n4, oi u5, oi u6, oi u7, oi u8, .unset, .unset, .unset, .unset, .unset, .unset, .unset, .unset, .unset, .unset, .unset, .unset, .unset] [(.ref a1_1)]) (fun t k => st1 t k) ?_
  refine ow (oT T1 m 53 #[oi p0, oi p1, oi p2, oi p3, oi n4, oi u5, oi u6, oi u7, oi u8, oR a1_1, .unset, .unset, .unset, .unset, .unset, .unset, .unset, .unset, .unset, .unset, .unset, .unset] []) (fun _ k => XS.astore X1.here hx rfl (hb hby at_51) rfl rfl (l' := #[oi p0, oi p1, oi p2, oi p3, oi n4, oi u5, oi u6, oi u7, oi u8, oR a1_1, .unset, .unset, .unset, .unset, .unset, .unset, .unset, .unset, .unset, .unset, .unset, .unset]) rfl k) ?_
  refine ow (oT T1 m 55 #[oi p0, oi p1, oi p2, oi p3, oi n4, oi u5, oi u6, oi u7, oi u8, oR a1_1, .unset, .unset, .unset, .unset, .unset, .unset, .unset, .unset, .unset, .unset, .unset, .unset] [(.int u6)]) (fun _ k => XS.iload X1.here hx rfl (hb hby at_53) rfl k) ?_
  have c3 : Sta Z h1 oS0 oS4 "Z" (.int zc) := (own_sta_keep pr1 K1 all0)
  obtain ⟨_, _, ⟨T2, LC2, kC2, nC2⟩, -, X2, ⟨Lc2, hQ2, lq2, yq2, zq2⟩, st2⟩ := Jvm.LawKit.callS X1 hx (y := oM23) hown (mvT hZ (own_hw hw 0)) (mvT hZ (own_hw hw 1)) (mvT hZ (own_hw hw 2)) (mvT hZ (own_hw hw 3)) (by decide) (backOf (W := 0) (rm1 l Z a0 hw [] zc u6 h1 n0 (by omega) c3 (by assumption) hl_u6) hZ (own_hw hw 3) (own_hw hw 2) (by decide) (by decide)) (g := (mkF m 55 #[oi p0, oi p1, oi p2, oi p3, oi n4, oi u5, oi u6, oi u7, oi u8, oR a1_1, .unset, .unset, .unset, .unset, .unset, .unset, .unset, .unset, .unset, .unset, .unset, .unset] [(.int u6)])) rfl hml.symm (argsL := [(.int u6)]) (rest := []) (lenOf pd_19 rfl) rfl (Nat.le_of_eq rfl) (hb hby at_55) (fun _ _ => ⟨rfl, e1, (by decide : 2 + 2 ≤ _), (by decide : 5 + 5 ≤ _)⟩)
  dsimp only [Pt.U, Pt.locs, Pt.cells, Pt.slots] at X2 lq2 yq2 zq2 st2 hQ2
  subst lq2 yq2 zq2
  obtain ⟨h2, e2⟩ : ∃ z, T2.heap = z := ⟨_, rfl⟩
  rw [e2] at hQ2
  obtain ⟨a1_2, r_2, kr_2, rfl, Nq2, K2, g2_0, g2_1, g2_2, g2_3, g2_4, g2_5⟩ := hQ2
  have sz2 : h1.size ≤ h2.size := K2.1
  have N2 := Fr.app N1 Nq2
  have lt2_1 : @LT.lt Nat _ a1_2 h2.size := g2_0.lt
  have lt2_2 : @LT.lt Nat _ r_2 h2.size := g2_3.lt
  refine ow (oT T2 m 58 #[oi p0, oi p1, oi p2, oi p3, oi n4, oi u5, oi u6, oi u7, oi u8, oR a1_1, .unset, .unset, .unset, .unset, .unset, .unset, .unset, .unset, .unset, .unset, .unset, .unset] [(.ref a1_2)]) (fun t k => st2 t k) ?_
  refine ow (oT T2 m 60 #[oi p0, oi p1, oi p2, oi p3, oi n4, oi u5, oi u6, oi u7, oi u8, oR a1_1, oR a1_2, .unset, .unset, .unset, .unset, .unset, .unset, .unset, .unset, .unset, .unset, .unset] []) (fun _ k => XS.astore X2.here hx rfl (hb hby at_58) rfl rfl (l' := #[oi p0, oi p1, oi p2, oi p3, oi n4, oi u5, oi u6, oi u7, oi u8, oR a1_1, oR a1_2, .unset, .unset, .unset, .unset, .unset, .unset, .unset, .unset, .unset, .unset, .unset]) rfl k) ?_
  obtain ⟨T4, h4, X4, e4, E4, A4, D4, -, st4⟩ := newO X2 hx hZ hown (own_hw hw 26) (own_hw hw 10) (own_hw hw 2) e2 (g := (mkF m 60 #[oi p0, oi p1, oi p2, oi p3, oi n4, oi u5, oi u6, oi u7, oi u8, oR a1_1, oR a1_2, .unset, .unset, .unset, .unset, .unset, .unset, .unset, .unset, .unset, .unset, .unset] [])) rfl (hb hby at_60) (by decide) (by decide)
  obtain ⟨b4, g4⟩ : ∃ z, z = h2.size := ⟨_, rfl⟩
  rw [← g4] at A4 D4 st4
  have sz4 : h2.size ≤ h4.size := E4.1
  have lt4 : @LT.lt Nat _ b4 h4.size := A4.lt
  have f5 : Fld Z h4 b4 oS0 "value" "[B" .null := D4 (Or.inr (own_hw hw 23)) (ty := (.array .byte)) (by decide)
  have f6 : Fld Z h4 b4 oS0 "coder" "B" (.int (0 : Int32)) := D4 (Or.inr (own_hw hw 25)) (ty := .byte) (by decide)
  refine ow (oT T4 m 63 #[oi p0, oi p1, oi p2, oi p3, oi n4, oi u5, oi u6, oi u7, oi u8, oR a1_1, oR a1_2, .unset, .unset, .unset, .unset, .unset, .unset, .unset, .unset, .unset, .unset, .unset] [(.ref b4)]) (st4) ?_
  refine ow (oT T4 m 64 #[oi p0, oi p1, oi p2, oi p3, oi n4, oi u5, oi u6, oi u7, oi u8, oR a1_1, oR a1_2, .unset, .unset, .unset, .unset, .unset, .unset, .unset, .unset, .unset, .unset, .unset] [(.ref b4), (.ref b4)]) (fun _ k => XS.dup X4.here hx rfl (hb hby at_63) rfl rfl k) ?_
  refine ow (oT T4 m 65 #[oi p0, oi p1, oi p2, oi p3, oi n4, oi u5, oi u6, oi u7, oi u8, oR a1_1, oR a1_2, .unset, .unset, .unset, .unset, .unset, .unset, .unset, .unset, .unset, .unset, .unset] [(.int (2 : Int32)), (.ref b4), (.ref b4)]) (fun _ k => XS.iconst X4.here hx rfl (hb hby at_64) k) ?_
  obtain ⟨T7, h7, k7, X7, e7, E7, A7, st7⟩ := newP X4 hx hZ (own_hw hw 27) e4 (g := (mkF m 65 #[oi p0, oi p1, oi p2, oi p3, oi n4, oi u5, oi u6, oi u7, oi u8, oR a1_1, oR a1_2, .unset, .unset, .unset, .unset, .unset, .unset, .unset, .unset, .unset, .unset, .unset] [(.int (2 : Int32)), (.ref b4), (.ref b4)])) rfl (hb hby at_65) rfl (by decide) (cap := 2) (by decide) (by decide) (by decide) (by decide)
  obtain ⟨b7, g7⟩ : ∃ z, z = h4.size := ⟨_, rfl⟩
  rw [← g7] at A7 st7
  have sz7 : h4.size ≤ h7.size := E7.1
  have lt7 : @LT.lt Nat _ b7 h7.size := A7.lt
  have v7 : Arv Z h7 b7 k7 .char (2 : Int32) [(.int (0 : Int32)), (.int (0 : Int32))] (.int (0 : Int32)) := (Arv.new A7 (by decide)).pad (pad_rep [] (.int (0 : Int32)) 2)
  refine ow (oT T7 m 67 #[oi p0, oi p1, oi p2, oi p3, oi n4, oi u5, oi u6, oi u7, oi u8, oR a1_1, oR a1_2, .unset, .unset, .unset, .unset, .unset, .unset, .unset, .unset, .unset, .unset, .unset] [(.ref b7), (.ref b4), (.ref b4)]) (st7) ?_
  refine ow (oT T7 m 68 #[oi p0, oi p1, oi p2, oi p3, oi n4, oi u5, oi u6, oi u7, oi u8, oR a1_1, oR a1_2, .unset, .unset, .unset, .unset, .unset, .unset, .unset, .unset, .unset, .unset, .unset] [(.ref b7), (.ref b7), (.ref b4), (.ref b4)]) (fun _ k => XS.dup X7.here hx rfl (hb hby at_67) rfl rfl k) ?_
  refine ow (oT T7 m 69 #[oi p0, oi p1, oi p2, oi p3, oi n4, oi u5, oi u6, oi u7, oi u8, oR a1_1, oR a1_2, .unset, .unset, .unset, .unset, .unset, .unset, .unset, .unset, .unset, .unset, .unset] [(.int (0 : Int32)), (.ref b7), (.ref b7), (.ref b4), (.ref b4)]) (fun _ k => XS.iconst X7.here hx rfl (hb hby at_68) k) ?_
  refine ow (oT T7 m 71 #[oi p0, oi p1, oi p2, oi p3, oi n4, oi u5, oi u6, oi u7, oi u8, oR a1_1, oR a1_2, .unset, .unset, .unset, .unset, .unset, .unset, .unset, .unset, .unset, .unset, .unset] [(.int u7), (.int (0 : Int32)), (.ref b7), (.ref b7), (.ref b4), (.ref b4)]) (fun _ k => XS.iload X7.here hx rfl (hb hby at_69) rfl k) ?_
  obtain ⟨cl8, Ar8, qc8, S8, M8, H8, G8⟩ := id v7
  have hin8 : ¬ ((0 : Int32) < 0 ∨ cl8.slots.size ≤ ((0 : Int32)).toNatClampNeg) := (inb_of S8 ⟨by decide, by decide⟩)
  obtain ⟨T8, h8, X8, e8, W8, st8⟩ := stC X7 hx hZ e7 Ar8 (j := (0 : Int32)) hin8 (g := (mkF m 71 #[oi p0, oi p1, oi p2, oi p3, oi n4, oi u5, oi u6, oi u7, oi u8, oR a1_1, oR a1_2, .unset, .unset, .unset, .unset, .unset, .unset, .unset, .unset, .unset, .unset, .unset] [(.int u7), (.int (0 : Int32)), (.ref b7), (.ref b7), (.ref b4), (.ref b4)])) rfl rfl (hb hby at_71)
  have sz8 : h8.size = h7.size := W8.size
  have N8 := Fr.snoc X8 N2 (by omega)
  have v8 : Arv Z h8 b7 k7 .char (2 : Int32) [(.int (nar .char u7)), (.int (0 : Int32))] (.int (0 : Int32)) := Arv.set Ar8 qc8 S8 M8 H8 G8 (fits_nar_char _) W8 0 rfl (Nat.le_of_ble_eq_true rfl)
  refine ow (oT T8 m 72 #[oi p0, oi p1, oi p2, oi p3, oi n4, oi u5, oi u6, oi u7, oi u8, oR a1_1, oR a1_2, .unset, .unset, .unset, .unset, .unset, .unset, .unset, .unset, .unset, .unset, .unset] [(.ref b7), (.ref b4), (.ref b4)]) (st8) ?_
  refine ow (oT T8 m 73 #[oi p0, oi p1, oi p2, oi p3, oi n4, oi u5, oi u6, oi u7, oi u8, oR a1_1, oR a1_2, .unset, .unset, .unset, .unset, .unset, .unset, .unset, .unset, .unset, .unset, .unset] [(.ref b7), (.ref b7), (.ref b4), (.ref b4)]) (fun _ k => XS.dup X8.here hx rfl (hb hby at_72) rfl rfl k) ?_
  refine ow (oT T8 m 74 #[oi p0, oi p1, oi p2, oi p3, oi n4, oi u5, oi u6, oi u7, oi u8, oR a1_1, oR a1_2, .unset, .unset, .unset, .unset, .unset, .unset, .unset, .unset, .unset, .unset, .unset] [(.int (1 : Int32)), (.ref b7), (.ref b7), (.ref b4), (.ref b4)]) (fun _ k => XS.iconst X8.here hx rfl (hb hby at_73) k) ?_
  refine ow (oT T8 m 76 #[oi p0, oi p1, oi p2, oi p3, oi n4, oi u5, oi u6, oi u7, oi u8, oR a1_1, oR a1_2, .unset, .unset, .unset, .unset, .unset, .unset, .unset, .unset, .unset, .unset, .unset] [(.int u8), (.int (1 : Int32)), (.ref b7), (.ref b7), (.ref b4), (.ref b4)]) (fun _ k => XS.iload X8.here hx rfl (hb hby at_74) rfl k) ?_
  obtain ⟨cl9, Ar9, qc9, S9, M9, H9, G9⟩ := id v8
  have hin9 : ¬ ((1 : Int32) < 0 ∨ cl9.slots.size ≤ ((1 : Int32)).toNatClampNeg) := (inb_of S9 ⟨by decide, by decide⟩)
  obtain ⟨T9, h9, X9, e9, W9, st9⟩ := stC X8 hx hZ e8 Ar9 (j := (1 : Int32)) hin9 (g := (mkF m 76 #[oi p0, oi p1, oi p2, oi p3, oi n4, oi u5, oi u6, oi u7, oi u8, oR a1_1, oR a1_2, .unset, .unset, .unset, .unset, .unset, .unset, .unset, .unset, .unset, .unset, .unset] [(.int u8), (.int (1 : Int32)), (.ref b7), (.ref b7), (.ref b4), (.ref b4)])) rfl rfl (hb hby at_76)
  have sz9 : h9.size = h8.size := W9.size
  have N9 := Fr.snoc X9 N8 (by omega)
  have v9 : Arv Z h9 b7 k7 .char (2 : Int32) [(.int (nar .char u7)), (.int (nar .char u8))] (.int (0 : Int32)) := Arv.set Ar9 qc9 S9 M9 H9 G9 (fits_nar_char _) W9 1 rfl (Nat.le_of_ble_eq_true rfl)
  refine ow (oT T9 m 77 #[oi p0, oi p1, oi p2, oi p3, oi n4, oi u5, oi u6, oi u7, oi u8, oR a1_1, oR a1_2, .unset, .unset, .unset, .unset, .unset, .unset, .unset, .unset, .unset, .unset, .unset] [(.ref b7), (.ref b4), (.ref b4)]) (st9) ?_
  have v10 : Arv Z h9 b7 k7 .char (2 : Int32) [(.int u7), (.int u8)] (.int (0 : Int32)) := by have q_ := v9; rw [own_lat_ch hl_u7, own_lat_ch hl_u8] at q_; exact q_
  have c12 : Exa Z h9 b4 oS0 := (((A4.ext E7).wr W8).wr W9)
  have c13 : Fld Z h9 b4 oS0 "value" "[B" .null := (((f5.ext E7).other W8 (Or.inl (own_ne (by omega)))).other W9 (Or.inl (own_ne (by omega))))
  have c14 : Fld Z h9 b4 oS0 "coder" "B" (.int (0 : Int32)) := (((f6.ext E7).other W8 (Or.inl (own_ne (by omega)))).other W9 (Or.inl (own_ne (by omega))))
  have c15 : Sta Z h9 oS0 oS4 "Z" (.int zc) := (((((own_sta_keep c3 K2 all0).ext E4).ext E7).wr W8).wr W9)
  obtain ⟨_, _, ⟨T11, LC11, kC11, nC11⟩, -, X11, ⟨Lc11, hQ11, lq11, yq11, zq11⟩, st11⟩ := X9.specialBack hx (y := oM0) rfl hown (mvT hZ (own_hw hw 28)) (mvT hZ (own_hw hw 29)) (mvT hZ (own_hw hw 30)) (by decide) (backOf (W := 1) (rsc_2 l Z a0 hw [] b4 b7 k7 zc u7 u8 h9 n0 (by omega) c12 c13 c14 v10 c15 (by assumption) hl_u7 hl_u8 (by omega) (own_ne (by omega))) hZ (own_hw hw 30) (own_hw hw 2) (by decide) (by decide)) (g := (mkF m 77 #[oi p0, oi p1, oi p2, oi p3, oi n4, oi u5, oi u6, oi u7, oi u8, oR a1_1, oR a1_2, .unset, .unset, .unset, .unset, .unset, .unset, .unset, .unset, .unset, .unset, .unset] [(.ref b7), (.ref b4), (.ref b4)])) rfl hml.symm (Steps.refl _) (a := b4) (argsL := [(.ref b7)]) (rest := [(.ref b4)]) (lenOf pd_20 rfl) rfl (Nat.le_of_eq rfl) (hb hby at_77) (fun _ _ => ⟨rfl, e9, (by decide : 6 + 1 ≤ _), (by decide : 16 + 2 ≤ _)⟩)
  dsimp only [Pt.U, Pt.locs, Pt.cells, Pt.slots] at X11 lq11 yq11 zq11 st11 hQ11
  subst lq11 yq11 zq11
  obtain ⟨h11, e11⟩ : ∃ z, T11.heap = z := ⟨_, rfl⟩
  rw [e11] at hQ11
  obtain ⟨r_11, kr_11, rfl, Nq11, K11, g11_0, g11_1, g11_2, g11_3, g11_4⟩ := hQ11
  have sz11 : h9.size ≤ h11.size := K11.1
  have N11 := Fr.app N9 Nq11
  have lt11_1 : @LT.lt Nat _ b4 h11.size := g11_0.lt
  have lt11_2 : @LT.lt Nat _ r_11 h11.size := g11_3.lt
  refine ow (oT T11 m 80 #[oi p0, oi p1, oi p2, oi p3, oi n4, oi u5, oi u6, oi u7, oi u8, oR a1_1, oR a1_2, .unset, .unset, .unset, .unset, .unset, .unset, .unset, .unset, .unset, .unset, .unset] [(.ref b4)]) (fun _ k => st11.trans k) ?_
  refine ow (oT T11 m 82 #[oi p0, oi p1, oi p2, oi p3, oi n4, oi u5, oi u6, oi u7, oi u8, oR a1_1, oR a1_2, oR b4, .unset, .unset, .unset, .unset, .unset, .unset, .unset, .unset, .unset, .unset] []) (fun _ k => XS.astore X11.here hx rfl (hb hby at_80) rfl rfl (l' := #[oi p0, oi p1, oi p2, oi p3, oi n4, oi u5, oi u6, oi u7, oi u8, oR a1_1, oR a1_2, oR b4, .unset, .unset, .unset, .unset, .unset, .unset, .unset, .unset, .unset, .unset]) rfl k) ?_
  refine ow (oT T11 m 83 #[oi p0, oi p1, oi p2, oi p3, oi n4, oi u5, oi u6, oi u7, oi u8, oR a1_1, oR a1_2, oR b4, .unset, .unset, .unset, .unset, .unset, .unset, .unset, .unset, .unset, .unset] [(.int p2)]) (fun _ k => XS.iloadN X11.here hx rfl (hb hby at_82) rfl k) ?_
  refine ow (oT T11 m 86 #[oi p0, oi p1, oi p2, oi p3, oi n4, oi u5, oi u6, oi u7, oi u8, oR a1_1, oR a1_2, oR b4, .unset, .unset, .unset, .unset, .unset, .unset, .unset, .unset, .unset, .unset] [(.int (255 : Int32)), (.int p2)]) (fun _ k => XS.sipush X11.here hx rfl (hb hby at_83) k) ?_
  refine ow (oT T11 m 87 #[oi p0, oi p1, oi p2, oi p3, oi n4, oi u5, oi u6, oi u7, oi u8, oR a1_1, oR a1_2, oR b4, .unset, .unset, .unset, .unset, .unset, .unset, .unset, .unset, .unset, .unset] [(.int (p2 &&& (255 : Int32)))]) (fun _ k => XS.iand X11.here hx rfl (hb hby at_86) rfl k) ?_
  obtain ⟨u12, hu12⟩ : ∃ z : Int32, z = (p2 &&& (255 : Int32)).toUInt32.toUInt16.toUInt32.toInt32 := ⟨_, rfl⟩
  refine ow (oT T11 m 88 #[oi p0, oi p1, oi p2, oi p3, oi n4, oi u5, oi u6, oi u7, oi u8, oR a1_1, oR a1_2, oR b4, .unset, .unset, .unset, .unset, .unset, .unset, .unset, .unset, .unset, .unset] [(.int u12)]) (fun _ k => XS.i2c X11.here hx rfl (hb hby at_87) rfl (by rw [hu12] at k; exact k)) ?_
  have hl_u12 : own_lat u12 := by rw [hu12]; exact own_lat_and _
  refine ow (oT T11 m 90 #[oi p0, oi p1, oi p2, oi p3, oi n4, oi u5, oi u6, oi u7, oi u8, oR a1_1, oR a1_2, oR b4, oi u12, .unset, .unset, .unset, .unset, .unset, .unset, .unset, .unset, .unset] []) (fun _ k => XS.istore X11.here hx rfl (hb hby at_88) rfl (l' := #[oi p0, oi p1, oi p2, oi p3, oi n4, oi u5, oi u6, oi u7, oi u8, oR a1_1, oR a1_2, oR b4, oi u12, .unset, .unset, .unset, .unset, .unset, .unset, .unset, .unset, .unset]) rfl k) ?_
  refine ow (oT T11 m 91 #[oi p0, oi p1, oi p2, oi p3, oi n4, oi u5, oi u6, oi u7, oi u8, oR a1_1, oR a1_2, oR b4, oi u12, .unset, .unset, .unset, .unset, .unset, .unset, .unset, .unset, .unset] [(.int p2)]) (fun _ k => XS.iloadN X11.here hx rfl (hb hby at_90) rfl k) ?_
  refine ow (oT T11 m 93 #[oi p0, oi p1, oi p2, oi p3, oi n4, oi u5, oi u6, oi u7, oi u8, oR a1_1, oR a1_2, oR b4, oi u12, .unset, .unset, .unset, .unset, .unset, .unset, .unset, .unset, .unset] [(.int (8 : Int32)), (.int p2)]) (fun _ k => XS.bipush X11.here hx rfl (hb hby at_91) k) ?_
  refine ow (oT T11 m 94 #[oi p0, oi p1, oi p2, oi p3, oi n4, oi u5, oi u6, oi u7, oi u8, oR a1_1, oR a1_2, oR b4, oi u12, .unset, .unset, .unset, .unset, .unset, .unset, .unset, .unset, .unset] [(.int ((p2.toUInt32 >>> ((8 : Int32) &&& 31).toUInt32).toInt32))]) (fun _ k => XS.iushr X11.here hx rfl (hb hby at_93) rfl k) ?_
  refine ow (oT T11 m 97 #[oi p0, oi p1, oi p2, oi p3, oi n4, oi u5, oi u6, oi u7, oi u8, oR a1_1, oR a1_2, oR b4, oi u12, .unset, .unset, .unset, .unset, .unset, .unset, .unset, .unset, .unset] [(.int (255 : Int32)), (.int ((p2.toUInt32 >>> ((8 : Int32) &&& 31).toUInt32).toInt32))]) (fun _ k => XS.sipush X11.here hx rfl (hb hby at_94) k) ?_
  refine ow (oT T11 m 98 #[oi p0, oi p1, oi p2, oi p3, oi n4, oi u5, oi u6, oi u7, oi u8, oR a1_1, oR a1_2, oR b4, oi u12, .unset, .unset, .unset, .unset, .unset, .unset, .unset, .unset, .unset] [(.int (((p2.toUInt32 >>> ((8 : Int32) &&& 31).toUInt32).toInt32) &&& (255 : Int32)))]) (fun _ k => XS.iand X11.here hx rfl (hb hby at_97) rfl k) ?_
  obtain ⟨u13, hu13⟩ : ∃ z : Int32, z = (((p2.toUInt32 >>> ((8 : Int32) &&& 31).toUInt32).toInt32) &&& (255 : Int32)).toUInt32.toUInt16.toUInt32.toInt32 := ⟨_, rfl⟩
  refine ow (oT T11 m 99 #[oi p0, oi p1, oi p2, oi p3, oi n4, oi u5, oi u6, oi u7, oi u8, oR a1_1, oR a1_2, oR b4, oi u12, .unset, .unset, .unset, .unset, .unset, .unset, .unset, .unset, .unset] [(.int u13)]) (fun _ k => XS.i2c X11.here hx rfl (hb hby at_98) rfl (by rw [hu13] at k; exact k)) ?_
  have hl_u13 : own_lat u13 := by rw [hu13]; exact own_lat_and _
  refine ow (oT T11 m 101 #[oi p0, oi p1, oi p2, oi p3, oi n4, oi u5, oi u6, oi u7, oi u8, oR a1_1, oR a1_2, oR b4, oi u12, oi u13, .unset, .unset, .unset, .unset, .unset, .unset, .unset, .unset] []) (fun _ k => XS.istore X11.here hx rfl (hb hby at_99) rfl (l' := #[oi p0, oi p1, oi p2, oi p3, oi n4, oi u5, oi u6, oi u7, oi u8, oR a1_1, oR a1_2, oR b4, oi u12, oi u13, .unset, .unset, .unset, .unset, .unset, .unset, .unset, .unset]) rfl k) ?_
  refine ow (oT T11 m 102 #[oi p0, oi p1, oi p2, oi p3, oi n4, oi u5, oi u6, oi u7, oi u8, oR a1_1, oR a1_2, oR b4, oi u12, oi u13, .unset, .unset, .unset, .unset, .unset, .unset, .unset, .unset] [(.int p2)]) (fun _ k => XS.iloadN X11.here hx rfl (hb hby at_101) rfl k) ?_
  refine ow (oT T11 m 104 #[oi p0, oi p1, oi p2, oi p3, oi n4, oi u5, oi u6, oi u7, oi u8, oR a1_1, oR a1_2, oR b4, oi u12, oi u13, .unset, .unset, .unset, .unset, .unset, .unset, .unset, .unset] [(.int (16 : Int32)), (.int p2)]) (fun _ k => XS.bipush X11.here hx rfl (hb hby at_102) k) ?_
  refine ow (oT T11 m 105 #[oi p0, oi p1, oi p2, oi p3, oi n4, oi u5, oi u6, oi u7, oi u8, oR a1_1, oR a1_2, oR b4, oi u12, oi u13, .unset, .unset, .unset, .unset, .unset, .unset, .unset, .unset] [(.int ((p2.toUInt32 >>> ((16 : Int32) &&& 31).toUInt32).toInt32))]) (fun _ k => XS.iushr X11.here hx rfl (hb hby at_104) rfl k) ?_
  refine ow (oT T11 m 108 #[oi p0, oi p1, oi p2, oi p3, oi n4, oi u5, oi u6, oi u7, oi u8, oR a1_1, oR a1_2, oR b4, oi u12, oi u13, .unset, .unset, .unset, .unset, .unset, .unset, .unset, .unset] [(.int (255 : Int32)), (.int ((p2.toUInt32 >>> ((16 : Int32) &&& 31).toUInt32).toInt32))]) (fun _ k => XS.sipush X11.here hx rfl (hb hby at_105) k) ?_
  refine ow (oT T11 m 109 #[oi p0, oi p1, oi p2, oi p3, oi n4, oi u5, oi u6, oi u7, oi u8, oR a1_1, oR a1_2, oR b4, oi u12, oi u13, .unset, .unset, .unset, .unset, .unset, .unset, .unset, .unset] [(.int (((p2.toUInt32 >>> ((16 : Int32) &&& 31).toUInt32).toInt32) &&& (255 : Int32)))]) (fun _ k => XS.iand X11.here hx rfl (hb hby at_108) rfl k) ?_
  obtain ⟨u14, hu14⟩ : ∃ z : Int32, z = (((p2.toUInt32 >>> ((16 : Int32) &&& 31).toUInt32).toInt32) &&& (255 : Int32)).toUInt32.toUInt16.toUInt32.toInt32 := ⟨_, rfl⟩
  refine ow (oT T11 m 110 #[oi p0, oi p1, oi p2, oi p3, oi n4, oi u5, oi u6, oi u7, oi u8, oR a1_1, oR a1_2, oR b4, oi u12, oi u13, .unset, .unset, .unset, .unset, .unset, .unset, .unset, .unset] [(.int u14)]) (fun _ k => XS.i2c X11.here hx rfl (hb hby at_109) rfl (by rw [hu14] at k; exact k)) ?_
  have hl_u14 : own_lat u14 := by rw [hu14]; exact own_lat_and _
  refine ow (oT T11 m 112 #[oi p0, oi p1, oi p2, oi p3, oi n4, oi u5, oi u6, oi u7, oi u8, oR a1_1, oR a1_2, oR b4, oi u12, oi u13, oi u14, .unset, .unset, .unset, .unset, .unset, .unset, .unset] []) (fun _ k => XS.istore X11.here hx rfl (hb hby at_110) rfl (l' := #[oi p0, oi p1, oi p2, oi p3, oi n4, oi u5, oi u6, oi u7, oi u8, oR a1_1, oR a1_2, oR b4, oi u12, oi u13, oi u14, .unset, .unset, .unset, .unset, .unset, .unset, .unset]) rfl k) ?_
  refine ow (oT T11 m 113 #[oi p0, oi p1, oi p2, oi p3, oi n4, oi u5, oi u6, oi u7, oi u8, oR a1_1, oR a1_2, oR b4, oi u12, oi u13, oi u14, .unset, .unset, .unset, .unset, .unset, .unset, .unset] [(.int p3)]) (fun _ k => XS.iloadN X11.here hx rfl (hb hby at_112) rfl k) ?_
  refine ow (oT T11 m 114 #[oi p0, oi p1, oi p2, oi p3, oi n4, oi u5, oi u6, oi u7, oi u8, oR a1_1, oR a1_2, oR b4, oi u12, oi u13, oi u14, .unset, .unset, .unset, .unset, .unset, .unset, .unset] [(.int (3 : Int32)), (.int p3)]) (fun _ k => XS.iconst X11.here hx rfl (hb hby at_113) k) ?_
  obtain ⟨n15, hn15⟩ : ∃ z : Int32, z = (p3 &&& (3 : Int32)) := ⟨_, rfl⟩
  refine ow (oT T11 m 115 #[oi p0, oi p1, oi p2, oi p3, oi n4, oi u5, oi u6, oi u7, oi u8, oR a1_1, oR a1_2, oR b4, oi u12, oi u13, oi u14, .unset, .unset, .unset, .unset, .unset, .unset, .unset] [(.int n15)]) (fun _ k => XS.iand X11.here hx rfl (hb hby at_114) rfl (by rw [hn15] at k; exact k)) ?_
  have ht_n15 : n15 = 0 ∨ n15 = 1 ∨ n15 = 2 ∨ n15 = 3 := by rw [hn15]; exact own_and3 _
  refine ow (oT T11 m 117 #[oi p0, oi p1, oi p2, oi p3, oi n4, oi u5, oi u6, oi u7, oi u8, oR a1_1, oR a1_2, oR b4, oi u12, oi u13, oi u14, oi n15, .unset, .unset, .unset, .unset, .unset, .unset] []) (fun _ k => XS.istore X11.here hx rfl (hb hby at_115) rfl (l' := #[oi p0, oi p1, oi p2, oi p3, oi n4, oi u5, oi u6, oi u7, oi u8, oR a1_1, oR a1_2, oR b4, oi u12, oi u13, oi u14, oi n15, .unset, .unset, .unset, .unset, .unset, .unset]) rfl k) ?_
  have KA16 : Keep h0 h11 [] := ((((((((Keep.refl h0 []).trans K1 all0).trans K2 all0).ext E4).ext E7).wr W8 (Or.inr (by omega))).wr W9 (Or.inr (by omega))).trans K11 (allS (P := fun x => x ∈ [] ∨ h0.size ≤ x) (Or.inr (by omega)) all0))
  have AS16 := CHr.keep (EL := own_EL) KA16 all0 A0.1
  have AA17 := A0.trans AS16
  have J315_18 : ∀ (Tj18 : State) (lj18 : List Loc) (hj18 : Heap) (w16 : Addr) (w17 : Addr) (r16 : Addr) (r17 : Addr) (k16 : ClassId) (k17 : ClassId) (vj18 : Vm) (kj18 : Nat) (Xj18 : Stand p l e room_1 (s.setVm vj18) m #[(.int p0), (.int p1), (.int p2), (.int p3)] below meth c Tj18 lj18 24 200) (ej18 : Tj18.heap = hj18) (Nj18 : Fr n0 lj18) (hSj18 : s.Since vj18 kj18) (hkj18 : kj18 ≤ hj18.size) (hZj18 : Z.Warmed39 (s.setVm vj18).vm) (hoj18 : (s.setVm vj18).vm.findClass oS14 = some m.cls) (Aj18 : CHr Z own_EL s.vm h0 vj18 hj18) (hw1617 : @Ne Nat w16 w17) (szj18 : h11.size ≤ hj18.size) (fj18_0 : Sta Z hj18 oS0 oS4 "Z" (.int zc)) (fj18_1 : Sta Z hj18 oS1 oS10 oS3 (.ref de)) (fj18_2 : Arv Z hj18 de kde (.object oS2) (0 : Int32) [] .null) (fj18_3 : Sta Z hj18 oS7 "EMPTY" oS5 (.ref em)) (fj18_4 : Exa Z hj18 a1_1 oS0) (fj18_5 : Fld Z hj18 a1_1 oS0 "value" "[B" (.ref r_1)) (fj18_6 : Fld Z hj18 a1_1 oS0 "coder" "B" (.int (0 : Int32))) (fj18_7 : Arv Z hj18 r_1 kr_1 .byte (1 : Int32) [(.int (own_by u5))] (.int (0 : Int32))) (fj18_8 : Exa Z hj18 a1_2 oS0) (fj18_9 : Fld Z hj18 a1_2 oS0 "value" "[B" (.ref r_2)) (fj18_10 : Fld Z hj18 a1_2 oS0 "coder" "B" (.int (0 : Int32))) (fj18_11 : Arv Z hj18 r_2 kr_2 .byte (1 : Int32) [(.int (own_by u6))] (.int (0 : Int32))) (fj18_12 : Exa Z hj18 b4 oS0) (fj18_13 : Fld Z hj18 b4 oS0 "value" "[B" (.ref r_11)) (fj18_14 : Fld Z hj18 b4 oS0 "coder" "B" (.int (0 : Int32))) (fj18_15 : Arv Z hj18 r_11 kr_11 .byte (2 : Int32) [(.int (own_by u7)), (.int (own_by u8))] (.int (0 : Int32))) (fj18_16 : Exa Z hj18 w16 oS0) (fj18_17 : Fld Z hj18 w16 oS0 "value" "[B" (.ref r16)) (fj18_18 : Fld Z hj18 w16 oS0 "coder" "B" (.int (0 : Int32))) (fj18_19 : Arv Z hj18 r16 k16 .byte n15 (own_bs n15 u12 u13 u14) (.int (0 : Int32))) (fj18_20 : Exa Z hj18 w17 oS0) (fj18_21 : Fld Z hj18 w17 oS0 "value" "[B" (.ref r17)) (fj18_22 : Fld Z hj18 w17 oS0 "coder" "B" (.int (0 : Int32))) (fj18_23 : Arv Z hj18 r17 k17 .byte n15 (own_bs n15 u12 u13 u14) (.int (0 : Int32))), own_Go p.tables e below P (Tj18.setTop (mkF m 315 #[oi p0, oi p1, oi p2, oi p3, oi n4, oi u5, oi u6, oi u7, oi u8, oR a1_1, oR a1_2, oR b4, oi u12, oi u13, oi u14, oi n15, oR w16, oR w17, .unset, .unset, .unset, .unset] [])) := by
   intro Tj18 lj18 hj18 w16 w17 r16 r17 k16 k17 vj18 kj18 Xj18 ej18 Nj18 hSj18 hkj18 hZ hown Aj18 hw1617 szj18 fj18_0 fj18_1 fj18_2 fj18_3 fj18_4 fj18_5 fj18_6 fj18_7 fj18_8 fj18_9 fj18_10 fj18_11 fj18_12 fj18_13 fj18_14 fj18_15 fj18_16 fj18_17 fj18_18 fj18_19 fj18_20 fj18_21 fj18_22 fj18_23
   have ltj18_2 : @LT.lt Nat _ de hj18.size := fj18_2.lt
   have ltj18_4 : @LT.lt Nat _ a1_1 hj18.size := fj18_4.lt
   have ltj18_7 : @LT.lt Nat _ r_1 hj18.size := fj18_7.lt
   have ltj18_8 : @LT.lt Nat _ a1_2 hj18.size := fj18_8.lt
   have ltj18_11 : @LT.lt Nat _ r_2 hj18.size := fj18_11.lt
   have ltj18_12 : @LT.lt Nat _ b4 hj18.size := fj18_12.lt
   have ltj18_15 : @LT.lt Nat _ r_11 hj18.size := fj18_15.lt
   have ltj18_16 : @LT.lt Nat _ w16 hj18.size := fj18_16.lt
   have ltj18_19 : @LT.lt Nat _ r16 hj18.size := fj18_19.lt
   have ltj18_20 : @LT.lt Nat _ w17 hj18.size := fj18_20.lt
   have ltj18_23 : @LT.lt Nat _ r17 hj18.size := fj18_23.lt
   obtain ⟨T19, h19, X19, e19, E19, A19, D19, -, st19⟩ := newO Xj18 hx hZ hown (own_hw hw 44) (own_hw hw 45) (own_hw hw 46) ej18 (g := (mkF m 315 #[oi p0, oi p1, oi p2, oi p3, oi n4, oi u5, oi u6, oi u7, oi u8, oR a1_1, oR a1_2, oR b4, oi u12, oi u13, oi u14, oi n15, oR w16, oR w17, .unset, .unset, .unset, .unset] [])) rfl (hb hby at_315) (by decide) (by decide)
   obtain ⟨b19, g19⟩ : ∃ z, z = hj18.size := ⟨_, rfl⟩
   rw [← g19] at A19 D19 st19
   have sz19 : hj18.size ≤ h19.size := E19.1
   have lt19 : @LT.lt Nat _ b19 h19.size := A19.lt
   have f20 : Fld Z h19 b19 oS8 "modCount" "I" (.int (0 : Int32)) := D19 (Or.inl (own_hw hw 64)) (ty := .int) (by decide)
   have f21 : Fld Z h19 b19 oS1 "elementData" oS3 .null := D19 (Or.inl (own_hw hw 67)) (ty := (.array (.object oS2))) (by decide)
   have f22 : Fld Z h19 b19 oS1 "size" "I" (.int (0 : Int32)) := D19 (Or.inl (own_hw hw 166)) (ty := .int) (by decide)
   refine ow (oT T19 m 318 #[oi p0, oi p1, oi p2, oi p3, oi n4, oi u5, oi u6, oi u7, oi u8, oR a1_1, oR a1_2, oR b4, oi u12, oi u13, oi u14, oi n15, oR w16, oR w17, .unset, .unset, .unset, .unset] [(.ref b19)]) (st19) ?_
   refine ow (oT T19 m 319 #[oi p0, oi p1, oi p2, oi p3, oi n4, oi u5, oi u6, oi u7, oi u8, oR a1_1, oR a1_2, oR b4, oi u12, oi u13, oi u14, oi n15, oR w16, oR w17, .unset, .unset, .unset, .unset] [(.ref b19), (.ref b19)]) (fun _ k => XS.dup X19.here hx rfl (hb hby at_318) rfl rfl k) ?_
   have c24 : Sta Z h19 oS1 oS10 oS3 (.ref de) := (fj18_1.ext E19)
   obtain ⟨_, _, ⟨T23, LC23, kC23, nC23⟩, -, X23, ⟨Lc23, hQ23, lq23, yq23, zq23⟩, st23⟩ := X19.specialBack hx (y := oM31) rfl hown (mvT hZ (own_hw hw 47)) (mvT hZ (own_hw hw 48)) (mvT hZ (own_hw hw 49)) (by decide) (backOf (W := 1) (rm11 l Z a0 hw [] b19 (0 : Int32) de h19 n0 (by omega) A19 f20 f21 f22 c24 (by omega)) hZ (own_hw hw 49) (own_hw hw 46) (by decide) (by decide)) (g := (mkF m 319 #[oi p0, oi p1, oi p2, oi p3, oi n4, oi u5, oi u6, oi u7, oi u8, oR a1_1, oR a1_2, oR b4, oi u12, oi u13, oi u14, oi n15, oR w16, oR w17, .unset, .unset, .unset, .unset] [(.ref b19), (.ref b19)])) rfl hml.symm (Steps.refl _) (a := b19) (argsL := []) (rest := [(.ref b19)]) (lenOf pd_8 rfl) rfl (Nat.le_of_eq rfl) (hb hby at_319) (fun _ _ => ⟨rfl, e19, (by decide : 25 + 0 ≤ _), (by decide : 203 + 0 ≤ _)⟩)
   dsimp only [Pt.U, Pt.locs, Pt.cells, Pt.slots] at X23 lq23 yq23 zq23 st23 hQ23
   subst lq23 yq23 zq23
   obtain ⟨h23, e23⟩ : ∃ z, T23.heap = z := ⟨_, rfl⟩
   rw [e23] at hQ23
   obtain ⟨rfl, Nq23, K23, g23_0, g23_1, g23_2, g23_3⟩ := hQ23
   have sz23 : h19.size ≤ h23.size := K23.1
   have N23 := Fr.app Nj18 Nq23
   have lt23_1 : @LT.lt Nat _ b19 h23.size := g23_0.lt
   refine ow (oT T23 m 322 #[oi p0, oi p1, oi p2, oi p3, oi n4, oi u5, oi u6, oi u7, oi u8, oR a1_1, oR a1_2, oR b4, oi u12, oi u13, oi u14, oi n15, oR w16, oR w17, .unset, .unset, .unset, .unset] [(.ref b19)]) (fun _ k => st23.trans k) ?_
   refine ow (oT T23 m 324 #[oi p0, oi p1, oi p2, oi p3, oi n4, oi u5, oi u6, oi u7, oi u8, oR a1_1, oR a1_2, oR b4, oi u12, oi u13, oi u14, oi n15, oR w16, oR w17, oR b19, .unset, .unset, .unset] []) (fun _ k => XS.astore X23.here hx rfl (hb hby at_322) rfl rfl (l' := #[oi p0, oi p1, oi p2, oi p3, oi n4, oi u5, oi u6, oi u7, oi u8, oR a1_1, oR a1_2, oR b4, oi u12, oi u13, oi u14, oi n15, oR w16, oR w17, oR b19, .unset, .unset, .unset]) rfl k) ?_
   rcases ht_n4 with rfl | rfl | rfl | rfl
   ·
    refine ow (oT T23 m 326 #[oi p0, oi p1, oi p2, oi p3, oi 0, oi u5, oi u6, oi u7, oi u8, oR a1_1, oR a1_2, oR b4, oi u12, oi u13, oi u14, oi n15, oR w16, oR w17, oR b19, .unset, .unset, .unset] [(.int (0 : Int32))]) (fun _ k => XS.iload X23.here hx rfl (hb hby at_324) rfl k) ?_
    have hc25 : ¬ ((0 : Int32) < (0 : Int32)) := by decide
    refine ow (oT T23 m 339 #[oi p0, oi p1, oi p2, oi p3, oi 0, oi u5, oi u6, oi u7, oi u8, oR a1_1, oR a1_2, oR b4, oi u12, oi u13, oi u14, oi n15, oR w16, oR w17, oR b19, .unset, .unset, .unset] []) (fun _ k => XS.ifYes X23.here hx rfl (pc0 := 326) (pc' := 339) rfl (hb hby at_326) rfl ((if0 _ _).trans (flt hc25).2.2.2) (by decide) (by decide) k) ?_
    refine ow (oT T23 m 341 #[oi p0, oi p1, oi p2, oi p3, oi 0, oi u5, oi u6, oi u7, oi u8, oR a1_1, oR a1_2, oR b4, oi u12, oi u13, oi u14, oi n15, oR w16, oR w17, oR b19, .unset, .unset, .unset] [(.int (0 : Int32))]) (fun _ k => XS.iload X23.here hx rfl (hb hby at_339) rfl k) ?_
    refine ow (oT T23 m 342 #[oi p0, oi p1, oi p2, oi p3, oi 0, oi u5, oi u6, oi u7, oi u8, oR a1_1, oR a1_2, oR b4, oi u12, oi u13, oi u14, oi n15, oR w16, oR w17, oR b19, .unset, .unset, .unset] [(.int (1 : Int32)), (.int (0 : Int32))]) (fun _ k => XS.iconst X23.here hx rfl (hb hby at_341) k) ?_
    have hc26 : ¬ ((1 : Int32) < (0 : Int32)) := by decide
    refine ow (oT T23 m 355 #[oi p0, oi p1, oi p2, oi p3, oi 0, oi u5, oi u6, oi u7, oi u8, oR a1_1, oR a1_2, oR b4, oi u12, oi u13, oi u14, oi n15, oR w16, oR w17, oR b19, .unset, .unset, .unset] []) (fun _ k => XS.icmpYes X23.here hx rfl (pc0 := 342) (pc' := 355) rfl (hb hby at_342) rfl (flt hc26).2.2.2 (by decide) (by decide) k) ?_
    refine ow (oT T23 m 357 #[oi p0, oi p1, oi p2, oi p3, oi 0, oi u5, oi u6, oi u7, oi u8, oR a1_1, oR a1_2, oR b4, oi u12, oi u13, oi u14, oi n15, oR w16, oR w17, oR b19, .unset, .unset, .unset] [(.int (0 : Int32))]) (fun _ k => XS.iload X23.here hx rfl (hb hby at_355) rfl k) ?_
    refine ow (oT T23 m 358 #[oi p0, oi p1, oi p2, oi p3, oi 0, oi u5, oi u6, oi u7, oi u8, oR a1_1, oR a1_2, oR b4, oi u12, oi u13, oi u14, oi n15, oR w16, oR w17, oR b19, .unset, .unset, .unset] [(.int (2 : Int32)), (.int (0 : Int32))]) (fun _ k => XS.iconst X23.here hx rfl (hb hby at_357) k) ?_
    have hc27 : ¬ ((2 : Int32) < (0 : Int32)) := by decide
    refine ow (oT T23 m 371 #[oi p0, oi p1, oi p2, oi p3, oi 0, oi u5, oi u6, oi u7, oi u8, oR a1_1, oR a1_2, oR b4, oi u12, oi u13, oi u14, oi n15, oR w16, oR w17, oR b19, .unset, .unset, .unset] []) (fun _ k => XS.icmpYes X23.here hx rfl (pc0 := 358) (pc' := 371) rfl (hb hby at_358) rfl (flt hc27).2.2.2 (by decide) (by decide) k) ?_
    refine ow (oT T23 m 373 #[oi p0, oi p1, oi p2, oi p3, oi 0, oi u5, oi u6, oi u7, oi u8, oR a1_1, oR a1_2, oR b4, oi u12, oi u13, oi u14, oi n15, oR w16, oR w17, oR b19, .unset, .unset, .unset] [(.ref b19)]) (fun _ k => XS.aload X23.here hx rfl (hb hby at_371) rfl rfl k) ?_
    refine ow (oT T23 m 375 #[oi p0, oi p1, oi p2, oi p3, oi 0, oi u5, oi u6, oi u7, oi u8, oR a1_1, oR a1_2, oR b4, oi u12, oi u13, oi u14, oi n15, oR w16, oR w17, oR b19, .unset, .unset, .unset] [(.ref w16), (.ref b19)]) (fun _ k => XS.aload X23.here hx rfl (hb hby at_373) rfl rfl k) ?_
    have c29 : Sta Z h23 oS7 "EMPTY" oS5 (.ref em) := (own_sta_keep (fj18_3.ext E19) K23 (allS (P := fun x => ∀ c : Cell, h19[x]? = some c → c.vm.isStatics = false) (own_pl_exa A19) all0))
    obtain ⟨_, _, ⟨T28, LC28, kC28, nC28⟩, -, X28, ⟨Lc28, hQ28, lq28, yq28, zq28⟩, st28⟩ := Jvm.LawKit.callS X23 hx (y := oM19) hown (mvT hZ (own_hw hw 68)) (mvT hZ (own_hw hw 69)) (mvT hZ (own_hw hw 70)) (mvT hZ (own_hw hw 71)) (by decide) (backOf (W := 0) (rm14 l Z a0 hw [] b19 w16 em h23 n0 (by omega) c29) hZ (own_hw hw 71) (own_hw hw 70) (by decide) (by decide)) (g := (mkF m 375 #[oi p0, oi p1, oi p2, oi p3, oi 0, oi u5, oi u6, oi u7, oi u8, oR a1_1, oR a1_2, oR b4, oi u12, oi u13, oi u14, oi n15, oR w16, oR w17, oR b19, .unset, .unset, .unset] [(.ref w16), (.ref b19)])) rfl hml.symm (argsL := [(.ref b19), (.ref w16)]) (rest := []) (lenOf pd_21 rfl) rfl (Nat.le_of_eq rfl) (hb hby at_375) (fun _ _ => ⟨rfl, e23, (by decide : 25 + 2 ≤ _), (by decide : 203 + 5 ≤ _)⟩)
    dsimp only [Pt.U, Pt.locs, Pt.cells, Pt.slots] at X28 lq28 yq28 zq28 st28 hQ28
    subst lq28 yq28 zq28
    obtain ⟨h28, e28⟩ : ∃ z, T28.heap = z := ⟨_, rfl⟩
    rw [e28] at hQ28
    obtain ⟨rp_28, r_28, rfl, Nq28, K28, g28_0, g28_1, g28_2, g28_3, g28_4, g28_5, g28_6, g28_7, g28_8⟩ := hQ28
    have sz28 : h23.size ≤ h28.size := K28.1
    have N28 := Fr.app N23 Nq28
    have lt28_1 : @LT.lt Nat _ rp_28 h28.size := g28_0.lt
    have lt28_2 : @LT.lt Nat _ r_28 h28.size := g28_4.lt
    refine ow (oT T28 m 378 #[oi p0, oi p1, oi p2, oi p3, oi 0, oi u5, oi u6, oi u7, oi u8, oR a1_1, oR a1_2, oR b4, oi u12, oi u13, oi u14, oi n15, oR w16, oR w17, oR b19, .unset, .unset, .unset] [(.ref rp_28)]) (fun t k => st28 t k) ?_
    refine ow (oT T28 m 380 #[oi p0, oi p1, oi p2, oi p3, oi 0, oi u5, oi u6, oi u7, oi u8, oR a1_1, oR a1_2, oR b4, oi u12, oi u13, oi u14, oi n15, oR w16, oR w17, oR b19, oR rp_28, .unset, .unset] []) (fun _ k => XS.astore X28.here hx rfl (hb hby at_378) rfl rfl (l' := #[oi p0, oi p1, oi p2, oi p3, oi 0, oi u5, oi u6, oi u7, oi u8, oR a1_1, oR a1_2, oR b4, oi u12, oi u13, oi u14, oi n15, oR w16, oR w17, oR b19, oR rp_28, .unset, .unset]) rfl k) ?_
    refine ow (oT T28 m 382 #[oi p0, oi p1, oi p2, oi p3, oi 0, oi u5, oi u6, oi u7, oi u8, oR a1_1, oR a1_2, oR b4, oi u12, oi u13, oi u14, oi n15, oR w16, oR w17, oR b19, oR rp_28, .unset, .unset] [(.ref rp_28)]) (fun _ k => XS.aload X28.here hx rfl (hb hby at_380) rfl rfl k) ?_
    obtain ⟨cq30, kq30, q30a, q30b, q30c⟩ := isOf hZ e28 g28_0
    obtain ⟨_, _, ⟨T30, LC30, kC30, nC30⟩, -, X30, ⟨Lc30, hQ30, lq30, yq30, zq30⟩, st30⟩ := X28.virtualBack hx (y := oM9) (z := oM9) hown (mvT hZ (own_hw hw 119)) (mvT hZ (own_hw hw 120)) (notFace_of_selects (args := #[]) (mvT hZ (own_hw hw 122))) (mvT hZ (own_hw hw 122)) (mvT hZ (own_hw hw 121)) (by decide) (backOf (W := 0) (rm21 l Z a0 hw [] rp_28 (0 : Int32) h28 n0 (by omega) g28_1) hZ (own_hw hw 123) (own_hw hw 70) (by decide) (by decide)) q30a q30c (g := (mkF m 382 #[oi p0, oi p1, oi p2, oi p3, oi 0, oi u5, oi u6, oi u7, oi u8, oR a1_1, oR a1_2, oR b4, oi u12, oi u13, oi u14, oi n15, oR w16, oR w17, oR b19, oR rp_28, .unset, .unset] [(.ref rp_28)])) rfl hml.symm (Steps.refl _) (argsL := []) (rest := []) (lenOf pd_22 rfl) rfl (Nat.le_of_eq rfl) (hb hby at_382) (fun _ _ => ⟨rfl, e28, (by decide : 27 + 0 ≤ _), (by decide : 208 + 0 ≤ _)⟩)
    dsimp only [Pt.U, Pt.locs, Pt.cells, Pt.slots] at X30 lq30 yq30 zq30 st30 hQ30
    subst lq30 yq30 zq30
    obtain ⟨rfl, Nq30, eq30⟩ := hQ30
    have N30 := Fr.app N28 Nq30
    refine ow (oT T30 m 385 #[oi p0, oi p1, oi p2, oi p3, oi 0, oi u5, oi u6, oi u7, oi u8, oR a1_1, oR a1_2, oR b4, oi u12, oi u13, oi u14, oi n15, oR w16, oR w17, oR b19, oR rp_28, .unset, .unset] [(.int (0 : Int32))]) (fun _ k => st30.trans k) ?_
    have hc31 : (0 : Int32) = (0 : Int32) := by decide
    refine ow (oT T30 m 390 #[oi p0, oi p1, oi p2, oi p3, oi 0, oi u5, oi u6, oi u7, oi u8, oR a1_1, oR a1_2, oR b4, oi u12, oi u13, oi u14, oi n15, oR w16, oR w17, oR b19, oR rp_28, .unset, .unset] []) (fun _ k => XS.ifYes X30.here hx rfl (pc0 := 385) (pc' := 390) rfl (hb hby at_385) rfl ((if0 _ _).trans (teq hc31).1) (by decide) (by decide) k) ?_
    refine ow (oT T30 m 392 #[oi p0, oi p1, oi p2, oi p3, oi 0, oi u5, oi u6, oi u7, oi u8, oR a1_1, oR a1_2, oR b4, oi u12, oi u13, oi u14, oi n15, oR w16, oR w17, oR b19, oR rp_28, .unset, .unset] [(.ref rp_28)]) (fun _ k => XS.aload X30.here hx rfl (hb hby at_390) rfl rfl k) ?_
    obtain ⟨cq32, kq32, q32a, q32b, q32c⟩ := isOf hZ eq30 g28_0
    obtain ⟨_, _, ⟨T32, LC32, kC32, nC32⟩, -, X32, ⟨Lc32, hQ32, lq32, yq32, zq32⟩, st32⟩ := X30.virtualBack hx (y := oM10) (z := oM10) hown (mvT hZ (own_hw hw 124)) (mvT hZ (own_hw hw 125)) (notFace_of_selects (args := #[]) (mvT hZ (own_hw hw 127))) (mvT hZ (own_hw hw 127)) (mvT hZ (own_hw hw 126)) (by decide) (backOf (W := 0) (rm22 l Z a0 hw [] rp_28 r_28 h28 n0 (by omega) g28_3) hZ (own_hw hw 128) (own_hw hw 70) (by decide) (by decide)) q32a q32c (g := (mkF m 392 #[oi p0, oi p1, oi p2, oi p3, oi 0, oi u5, oi u6, oi u7, oi u8, oR a1_1, oR a1_2, oR b4, oi u12, oi u13, oi u14, oi n15, oR w16, oR w17, oR b19, oR rp_28, .unset, .unset] [(.ref rp_28)])) rfl hml.symm (Steps.refl _) (argsL := []) (rest := []) (lenOf pd_23 rfl) rfl (Nat.le_of_eq rfl) (hb hby at_392) (fun _ _ => ⟨rfl, eq30, (by decide : 27 + 0 ≤ _), (by decide : 208 + 0 ≤ _)⟩)
    dsimp only [Pt.U, Pt.locs, Pt.cells, Pt.slots] at X32 lq32 yq32 zq32 st32 hQ32
    subst lq32 yq32 zq32
    obtain ⟨rfl, Nq32, eq32⟩ := hQ32
    have N32 := Fr.app N30 Nq32
    refine ow (oT T32 m 395 #[oi p0, oi p1, oi p2, oi p3, oi 0, oi u5, oi u6, oi u7, oi u8, oR a1_1, oR a1_2, oR b4, oi u12, oi u13, oi u14, oi n15, oR w16, oR w17, oR b19, oR rp_28, .unset, .unset] [(.ref r_28)]) (fun _ k => st32.trans k) ?_
    refine ow (oT T32 m 397 #[oi p0, oi p1, oi p2, oi p3, oi 0, oi u5, oi u6, oi u7, oi u8, oR a1_1, oR a1_2, oR b4, oi u12, oi u13, oi u14, oi n15, oR w16, oR w17, oR b19, oR rp_28, oR r_28, .unset] []) (fun _ k => XS.astore X32.here hx rfl (hb hby at_395) rfl rfl (l' := #[oi p0, oi p1, oi p2, oi p3, oi 0, oi u5, oi u6, oi u7, oi u8, oR a1_1, oR a1_2, oR b4, oi u12, oi u13, oi u14, oi n15, oR w16, oR w17, oR b19, oR rp_28, oR r_28, .unset]) rfl k) ?_
    refine ow (oT T32 m 399 #[oi p0, oi p1, oi p2, oi p3, oi 0, oi u5, oi u6, oi u7, oi u8, oR a1_1, oR a1_2, oR b4, oi u12, oi u13, oi u14, oi n15, oR w16, oR w17, oR b19, oR rp_28, oR r_28, .unset] [(.ref r_28)]) (fun _ k => XS.aload X32.here hx rfl (hb hby at_397) rfl rfl k) ?_
    have c34 : Sta Z h28 oS7 "EMPTY" oS5 (.ref em) := (own_sta_keep c29 K28 all0)
    obtain ⟨cq33, kq33, q33a, q33b, q33c⟩ := isOf hZ eq32 g28_4
    obtain ⟨_, _, ⟨T33, LC33, kC33, nC33⟩, -, X33, ⟨Lc33, hQ33, lq33, yq33, zq33⟩, st33⟩ := X32.interfaceBack hx (xi := oM17) (y := oM20) hown (mvT hZ (own_hw hw 129)) (mvT hZ (own_hw hw 130)) (mvT hZ (own_hw hw 131)) (mvT hZ (own_hw hw 132)) (mvT hZ (own_hw hw 133)) (mvT hZ (own_hw hw 134)) (mvT hZ (own_hw hw 135)) (mvT hZ (own_hw hw 136)) (by decide) (backOf (W := 0) (rm23 l Z a0 hw [] r_28 em h28 n0 (by omega) g28_6 c34) hZ (own_hw hw 137) (own_hw hw 80) (by decide) (by decide)) q33a q33b q33c (g := (mkF m 399 #[oi p0, oi p1, oi p2, oi p3, oi 0, oi u5, oi u6, oi u7, oi u8, oR a1_1, oR a1_2, oR b4, oi u12, oi u13, oi u14, oi n15, oR w16, oR w17, oR b19, oR rp_28, oR r_28, .unset] [(.ref r_28)])) rfl hml.symm (Steps.refl _) (argsL := []) (rest := []) (lenOf pd_22 rfl) rfl (Nat.le_of_eq rfl) (hb hby at_399) (fun _ _ => ⟨rfl, eq32, (by decide : 27 + 0 ≤ _), (by decide : 208 + 0 ≤ _)⟩)
    dsimp only [Pt.U, Pt.locs, Pt.cells, Pt.slots] at X33 lq33 yq33 zq33 st33 hQ33
    subst lq33 yq33 zq33
    obtain ⟨rfl, Nq33, eq33⟩ := hQ33
    have N33 := Fr.app N32 Nq33
    refine ow (oT T33 m 404 #[oi p0, oi p1, oi p2, oi p3, oi 0, oi u5, oi u6, oi u7, oi u8, oR a1_1, oR a1_2, oR b4, oi u12, oi u13, oi u14, oi n15, oR w16, oR w17, oR b19, oR rp_28, oR r_28, .unset] [(.int (1 : Int32))]) (fun _ k => st33.trans k) ?_
    refine ow (oT T33 m 405 #[oi p0, oi p1, oi p2, oi p3, oi 0, oi u5, oi u6, oi u7, oi u8, oR a1_1, oR a1_2, oR b4, oi u12, oi u13, oi u14, oi n15, oR w16, oR w17, oR b19, oR rp_28, oR r_28, .unset] [(.int (1 : Int32)), (.int (1 : Int32))]) (fun _ k => XS.iconst X33.here hx rfl (hb hby at_404) k) ?_
    have hc35 : (1 : Int32) = (1 : Int32) := by decide
    refine ow (oT T33 m 408 #[oi p0, oi p1, oi p2, oi p3, oi 0, oi u5, oi u6, oi u7, oi u8, oR a1_1, oR a1_2, oR b4, oi u12, oi u13, oi u14, oi n15, oR w16, oR w17, oR b19, oR rp_28, oR r_28, .unset] []) (fun _ k => XS.icmpNo X33.here hx rfl (hb hby at_405) rfl (teq hc35).2 k) ?_
    refine ow (oT T33 m 410 #[oi p0, oi p1, oi p2, oi p3, oi 0, oi u5, oi u6, oi u7, oi u8, oR a1_1, oR a1_2, oR b4, oi u12, oi u13, oi u14, oi n15, oR w16, oR w17, oR b19, oR rp_28, oR r_28, .unset] [(.ref r_28)]) (fun _ k => XS.aload X33.here hx rfl (hb hby at_408) rfl rfl k) ?_
    refine ow (oT T33 m 411 #[oi p0, oi p1, oi p2, oi p3, oi 0, oi u5, oi u6, oi u7, oi u8, oR a1_1, oR a1_2, oR b4, oi u12, oi u13, oi u14, oi n15, oR w16, oR w17, oR b19, oR rp_28, oR r_28, .unset] [(.int (0 : Int32)), (.ref r_28)]) (fun _ k => XS.iconst X33.here hx rfl (hb hby at_410) k) ?_
    obtain ⟨cq36, kq36, q36a, q36b, q36c⟩ := isOf hZ eq33 g28_4
    obtain ⟨_, _, ⟨T36, LC36, kC36, nC36⟩, -, X36, ⟨Lc36, hQ36, lq36, yq36, zq36⟩, st36⟩ := X33.interfaceBack hx (xi := oM12) (y := oM21) hown (mvT hZ (own_hw hw 138)) (mvT hZ (own_hw hw 139)) (mvT hZ (own_hw hw 140)) (mvT hZ (own_hw hw 141)) (mvT hZ (own_hw hw 142)) (mvT hZ (own_hw hw 143)) (mvT hZ (own_hw hw 144)) (mvT hZ (own_hw hw 136)) (by decide) (backOf (W := 0) (rm24 l Z a0 hw [] r_28 w16 h28 n0 (by omega) g28_5) hZ (own_hw hw 145) (own_hw hw 80) (by decide) (by decide)) q36a q36b q36c (g := (mkF m 411 #[oi p0, oi p1, oi p2, oi p3, oi 0, oi u5, oi u6, oi u7, oi u8, oR a1_1, oR a1_2, oR b4, oi u12, oi u13, oi u14, oi n15, oR w16, oR w17, oR b19, oR rp_28, oR r_28, .unset] [(.int (0 : Int32)), (.ref r_28)])) rfl hml.symm (Steps.refl _) (argsL := [(.int (0 : Int32))]) (rest := []) (lenOf pd_14 rfl) rfl (Nat.le_of_eq rfl) (hb hby at_411) (fun _ _ => ⟨rfl, eq33, (by decide : 27 + 0 ≤ _), (by decide : 208 + 0 ≤ _)⟩)
    dsimp only [Pt.U, Pt.locs, Pt.cells, Pt.slots] at X36 lq36 yq36 zq36 st36 hQ36
    subst lq36 yq36 zq36
    obtain ⟨rfl, Nq36, eq36⟩ := hQ36
    have N36 := Fr.app N33 Nq36
    refine ow (oT T36 m 416 #[oi p0, oi p1, oi p2, oi p3, oi 0, oi u5, oi u6, oi u7, oi u8, oR a1_1, oR a1_2, oR b4, oi u12, oi u13, oi u14, oi n15, oR w16, oR w17, oR b19, oR rp_28, oR r_28, .unset] [(.ref w16)]) (fun _ k => st36.trans k) ?_
    have c38 : Exa Z h28 w16 oS0 := (((fj18_16.ext E19).keep K23).keep K28)
    obtain ⟨T37, X37, e37, st37⟩ := castY X36 hx hZ hown (own_hw hw 26) eq36 (Ins.self c38) (g := (mkF m 416 #[oi p0, oi p1, oi p2, oi p3, oi 0, oi u5, oi u6, oi u7, oi u8, oR a1_1, oR a1_2, oR b4, oi u12, oi u13, oi u14, oi n15, oR w16, oR w17, oR b19, oR rp_28, oR r_28, .unset] [(.ref w16)])) rfl rfl (hb hby at_416)
    refine ow (oT T37 m 419 #[oi p0, oi p1, oi p2, oi p3, oi 0, oi u5, oi u6, oi u7, oi u8, oR a1_1, oR a1_2, oR b4, oi u12, oi u13, oi u14, oi n15, oR w16, oR w17, oR b19, oR rp_28, oR r_28, .unset] [(.ref w16)]) (st37) ?_
    refine ow (oT T37 m 421 #[oi p0, oi p1, oi p2, oi p3, oi 0, oi u5, oi u6, oi u7, oi u8, oR a1_1, oR a1_2, oR b4, oi u12, oi u13, oi u14, oi n15, oR w16, oR w17, oR b19, oR rp_28, oR r_28, .unset] [(.ref w17), (.ref w16)]) (fun _ k => XS.aload X37.here hx rfl (hb hby at_419) rfl rfl k) ?_
    have c40 : Sta Z h28 oS0 oS4 "Z" (.int zc) := (own_sta_keep (own_sta_keep (fj18_0.ext E19) K23 (allS (P := fun x => ∀ c : Cell, h19[x]? = some c → c.vm.isStatics = false) (own_pl_exa A19) all0)) K28 all0)
    have c41 : Fld Z h28 w16 oS0 "value" "[B" (.ref r16) := (((fj18_17.ext E19).keep K23 (ninS (own_ne (by omega)) nin0)).keep K28 nin0)
    have c42 : Fld Z h28 w16 oS0 "coder" "B" (.int (0 : Int32)) := (((fj18_18.ext E19).keep K23 (ninS (own_ne (by omega)) nin0)).keep K28 nin0)
    have c43 : Exa Z h28 w17 oS0 := (((fj18_20.ext E19).keep K23).keep K28)
    have c44 : Fld Z h28 w17 oS0 "value" "[B" (.ref r17) := (((fj18_21.ext E19).keep K23 (ninS (own_ne (by omega)) nin0)).keep K28 nin0)
    have c45 : Fld Z h28 w17 oS0 "coder" "B" (.int (0 : Int32)) := (((fj18_22.ext E19).keep K23 (ninS (own_ne (by omega)) nin0)).keep K28 nin0)
    have c46 : Arv Z h28 r16 k16 .byte n15 (own_bs n15 u12 u13 u14) (.int (0 : Int32)) := (((fj18_19.ext E19).keep K23 (ninS (own_ne (by omega)) nin0)).keep K28 nin0)
    have c47 : Arv Z h28 r17 k17 .byte n15 (own_bs n15 u12 u13 u14) (.int (0 : Int32)) := (((fj18_23.ext E19).keep K23 (ninS (own_ne (by omega)) nin0)).keep K28 nin0)
    obtain ⟨cq39, kq39, q39a, q39b, q39c⟩ := isOf hZ e37 c38
    obtain ⟨_, _, ⟨T39, LC39, kC39, nC39⟩, -, X39, ⟨Lc39, hQ39, lq39, yq39, zq39⟩, st39⟩ := X37.virtualBack hx (y := oM1) (z := oM1) hown (mvT hZ (own_hw hw 146)) (mvT hZ (own_hw hw 147)) (notFace_of_selects (args := #[]) (mvT hZ (own_hw hw 149))) (mvT hZ (own_hw hw 149)) (mvT hZ (own_hw hw 148)) (by decide) (backOf (W := 0) (rse_gen l Z a0 hw [] w16 w17 zc r16 k16 n15 (own_bs n15 u12 u13 u14) r17 k17 h28 n0 (by omega) c40 (by assumption) (own_ne (by omega)) c38 c41 c42 c43 c44 c45 c46 c47 (own_bs_sh ht_n15)) hZ (own_hw hw 150) (own_hw hw 2) (by decide) (by decide)) q39a q39c (g := (mkF m 421 #[oi p0, oi p1, oi p2, oi p3, oi 0, oi u5, oi u6, oi u7, oi u8, oR a1_1, oR a1_2, oR b4, oi u12, oi u13, oi u14, oi n15, oR w16, oR w17, oR b19, oR rp_28, oR r_28, .unset] [(.ref w17), (.ref w16)])) rfl hml.symm (Steps.refl _) (argsL := [(.ref w17)]) (rest := []) (lenOf pd_24 rfl) rfl (Nat.le_of_eq rfl) (hb hby at_421) (fun _ _ => ⟨rfl, e37, (by decide : 27 + 0 ≤ _), (by decide : 208 + 0 ≤ _)⟩)
    dsimp only [Pt.U, Pt.locs, Pt.cells, Pt.slots] at X39 lq39 yq39 zq39 st39 hQ39
    subst lq39 yq39 zq39
    obtain ⟨rfl, Nq39, eq39⟩ := hQ39
    have N39 := Fr.app N36 Nq39
    refine ow (oT T39 m 424 #[oi p0, oi p1, oi p2, oi p3, oi 0, oi u5, oi u6, oi u7, oi u8, oR a1_1, oR a1_2, oR b4, oi u12, oi u13, oi u14, oi n15, oR w16, oR w17, oR b19, oR rp_28, oR r_28, .unset] [(.int (1 : Int32))]) (fun _ k => st39.trans k) ?_
    have hc48 : ¬ ((1 : Int32) = (0 : Int32)) := by decide
    refine ow (oT T39 m 429 #[oi p0, oi p1, oi p2, oi p3, oi 0, oi u5, oi u6, oi u7, oi u8, oR a1_1, oR a1_2, oR b4, oi u12, oi u13, oi u14, oi n15, oR w16, oR w17, oR b19, oR rp_28, oR r_28, .unset] []) (fun _ k => XS.ifYes X39.here hx rfl (pc0 := 424) (pc' := 429) rfl (hb hby at_424) rfl ((if0 _ _).trans (feq hc48).2) (by decide) (by decide) k) ?_
    refine ow (oT T39 m 431 #[oi p0, oi p1, oi p2, oi p3, oi 0, oi u5, oi u6, oi u7, oi u8, oR a1_1, oR a1_2, oR b4, oi u12, oi u13, oi u14, oi n15, oR w16, oR w17, oR b19, oR rp_28, oR r_28, .unset] [(.ref rp_28)]) (fun _ k => XS.aload X39.here hx rfl (hb hby at_429) rfl rfl k) ?_
    obtain ⟨cq49, kq49, q49a, q49b, q49c⟩ := isOf hZ eq39 g28_0
    obtain ⟨_, _, ⟨T49, LC49, kC49, nC49⟩, -, X49, ⟨Lc49, hQ49, lq49, yq49, zq49⟩, st49⟩ := X39.virtualBack hx (y := oM11) (z := oM11) hown (mvT hZ (own_hw hw 154)) (mvT hZ (own_hw hw 155)) (notFace_of_selects (args := #[]) (mvT hZ (own_hw hw 157))) (mvT hZ (own_hw hw 157)) (mvT hZ (own_hw hw 156)) (by decide) (backOf (W := 0) (rm27 l Z a0 hw [] rp_28 b19 h28 n0 (by omega) g28_2) hZ (own_hw hw 158) (own_hw hw 70) (by decide) (by decide)) q49a q49c (g := (mkF m 431 #[oi p0, oi p1, oi p2, oi p3, oi 0, oi u5, oi u6, oi u7, oi u8, oR a1_1, oR a1_2, oR b4, oi u12, oi u13, oi u14, oi n15, oR w16, oR w17, oR b19, oR rp_28, oR r_28, .unset] [(.ref rp_28)])) rfl hml.symm (Steps.refl _) (argsL := []) (rest := []) (lenOf pd_23 rfl) rfl (Nat.le_of_eq rfl) (hb hby at_431) (fun _ _ => ⟨rfl, eq39, (by decide : 27 + 0 ≤ _), (by decide : 208 + 0 ≤ _)⟩)
    dsimp only [Pt.U, Pt.locs, Pt.cells, Pt.slots] at X49 lq49 yq49 zq49 st49 hQ49
    subst lq49 yq49 zq49
    obtain ⟨rfl, Nq49, eq49⟩ := hQ49
    have N49 := Fr.app N39 Nq49
    refine ow (oT T49 m 434 #[oi p0, oi p1, oi p2, oi p3, oi 0, oi u5, oi u6, oi u7, oi u8, oR a1_1, oR a1_2, oR b4, oi u12, oi u13, oi u14, oi n15, oR w16, oR w17, oR b19, oR rp_28, oR r_28, .unset] [(.ref b19)]) (fun _ k => st49.trans k) ?_
    refine ow (oT T49 m 436 #[oi p0, oi p1, oi p2, oi p3, oi 0, oi u5, oi u6, oi u7, oi u8, oR a1_1, oR a1_2, oR b4, oi u12, oi u13, oi u14, oi n15, oR w16, oR w17, oR b19, oR rp_28, oR r_28, oR b19] []) (fun _ k => XS.astore X49.here hx rfl (hb hby at_434) rfl rfl (l' := #[oi p0, oi p1, oi p2, oi p3, oi 0, oi u5, oi u6, oi u7, oi u8, oR a1_1, oR a1_2, oR b4, oi u12, oi u13, oi u14, oi n15, oR w16, oR w17, oR b19, oR rp_28, oR r_28, oR b19]) rfl k) ?_
    refine ow (oT T49 m 438 #[oi p0, oi p1, oi p2, oi p3, oi 0, oi u5, oi u6, oi u7, oi u8, oR a1_1, oR a1_2, oR b4, oi u12, oi u13, oi u14, oi n15, oR w16, oR w17, oR b19, oR rp_28, oR r_28, oR b19] [(.ref b19)]) (fun _ k => XS.aload X49.here hx rfl (hb hby at_436) rfl rfl k) ?_
    have c51 : Fld Z h28 b19 oS1 "size" "I" (.int (0 : Int32)) := (g23_3.keep K28 nin0)
    have c52 : Exa Z h28 b19 oS1 := (g23_0.keep K28)
    obtain ⟨cq50, kq50, q50a, q50b, q50c⟩ := isOf hZ eq49 c52
    obtain ⟨_, _, ⟨T50, LC50, kC50, nC50⟩, -, X50, ⟨Lc50, hQ50, lq50, yq50, zq50⟩, st50⟩ := X49.interfaceBack hx (xi := oM17) (y := oM18) hown (mvT hZ (own_hw hw 129)) (mvT hZ (own_hw hw 130)) (mvT hZ (own_hw hw 131)) (mvT hZ (own_hw hw 159)) (mvT hZ (own_hw hw 160)) (mvT hZ (own_hw hw 161)) (mvT hZ (own_hw hw 162)) (mvT hZ (own_hw hw 163)) (by decide) (backOf (W := 0) (rm28 l Z a0 hw [] b19 (0 : Int32) h28 n0 (by omega) c51) hZ (own_hw hw 164) (own_hw hw 46) (by decide) (by decide)) q50a q50b q50c (g := (mkF m 438 #[oi p0, oi p1, oi p2, oi p3, oi 0, oi u5, oi u6, oi u7, oi u8, oR a1_1, oR a1_2, oR b4, oi u12, oi u13, oi u14, oi n15, oR w16, oR w17, oR b19, oR rp_28, oR r_28, oR b19] [(.ref b19)])) rfl hml.symm (Steps.refl _) (argsL := []) (rest := []) (lenOf pd_22 rfl) rfl (Nat.le_of_eq rfl) (hb hby at_438) (fun _ _ => ⟨rfl, eq49, (by decide : 27 + 0 ≤ _), (by decide : 208 + 0 ≤ _)⟩)
    dsimp only [Pt.U, Pt.locs, Pt.cells, Pt.slots] at X50 lq50 yq50 zq50 st50 hQ50
    subst lq50 yq50 zq50
    obtain ⟨rfl, Nq50, eq50⟩ := hQ50
    have N50 := Fr.app N49 Nq50
    refine ow (oT T50 m 443 #[oi p0, oi p1, oi p2, oi p3, oi 0, oi u5, oi u6, oi u7, oi u8, oR a1_1, oR a1_2, oR b4, oi u12, oi u13, oi u14, oi n15, oR w16, oR w17, oR b19, oR rp_28, oR r_28, oR b19] [(.int (0 : Int32))]) (fun _ k => st50.trans k) ?_
    refine ow (oT T50 m 445 #[oi p0, oi p1, oi p2, oi p3, oi 0, oi u5, oi u6, oi u7, oi u8, oR a1_1, oR a1_2, oR b4, oi u12, oi u13, oi u14, oi n15, oR w16, oR w17, oR b19, oR rp_28, oR r_28, oR b19] [(.int (0 : Int32)), (.int (0 : Int32))]) (fun _ k => XS.iload X50.here hx rfl (hb hby at_443) rfl k) ?_
    have hc53 : (0 : Int32) = (0 : Int32) := by decide
    refine ow (oT T50 m 450 #[oi p0, oi p1, oi p2, oi p3, oi 0, oi u5, oi u6, oi u7, oi u8, oR a1_1, oR a1_2, oR b4, oi u12, oi u13, oi u14, oi n15, oR w16, oR w17, oR b19, oR rp_28, oR r_28, oR b19] []) (fun _ k => XS.icmpYes X50.here hx rfl (pc0 := 445) (pc' := 450) rfl (hb hby at_445) rfl (teq hc53).1 (by decide) (by decide) k) ?_
    refine ow (oT T50 m 452 #[oi p0, oi p1, oi p2, oi p3, oi 0, oi u5, oi u6, oi u7, oi u8, oR a1_1, oR a1_2, oR b4, oi u12, oi u13, oi u14, oi n15, oR w16, oR w17, oR b19, oR rp_28, oR r_28, oR b19] [(.int (0 : Int32))]) (fun _ k => XS.iload X50.here hx rfl (hb hby at_450) rfl k) ?_
    have hc54 : ¬ ((0 : Int32) < (0 : Int32)) := by decide
    refine ow (oT T50 m 489 #[oi p0, oi p1, oi p2, oi p3, oi 0, oi u5, oi u6, oi u7, oi u8, oR a1_1, oR a1_2, oR b4, oi u12, oi u13, oi u14, oi n15, oR w16, oR w17, oR b19, oR rp_28, oR r_28, oR b19] []) (fun _ k => XS.ifYes X50.here hx rfl (pc0 := 452) (pc' := 489) rfl (hb hby at_452) rfl ((if0 _ _).trans (flt hc54).2.2.2) (by decide) (by decide) k) ?_
    refine ow (oT T50 m 491 #[oi p0, oi p1, oi p2, oi p3, oi 0, oi u5, oi u6, oi u7, oi u8, oR a1_1, oR a1_2, oR b4, oi u12, oi u13, oi u14, oi n15, oR w16, oR w17, oR b19, oR rp_28, oR r_28, oR b19] [(.int (0 : Int32))]) (fun _ k => XS.iload X50.here hx rfl (hb hby at_489) rfl k) ?_
    refine ow (oT T50 m 492 #[oi p0, oi p1, oi p2, oi p3, oi 0, oi u5, oi u6, oi u7, oi u8, oR a1_1, oR a1_2, oR b4, oi u12, oi u13, oi u14, oi n15, oR w16, oR w17, oR b19, oR rp_28, oR r_28, oR b19] [(.int (1 : Int32)), (.int (0 : Int32))]) (fun _ k => XS.iconst X50.here hx rfl (hb hby at_491) k) ?_
    have hc55 : ¬ ((1 : Int32) < (0 : Int32)) := by decide
    refine ow (oT T50 m 529 #[oi p0, oi p1, oi p2, oi p3, oi 0, oi u5, oi u6, oi u7, oi u8, oR a1_1, oR a1_2, oR b4, oi u12, oi u13, oi u14, oi n15, oR w16, oR w17, oR b19, oR rp_28, oR r_28, oR b19] []) (fun _ k => XS.icmpYes X50.here hx rfl (pc0 := 492) (pc' := 529) rfl (hb hby at_492) rfl (flt hc55).2.2.2 (by decide) (by decide) k) ?_
    refine ow (oT T50 m 531 #[oi p0, oi p1, oi p2, oi p3, oi 0, oi u5, oi u6, oi u7, oi u8, oR a1_1, oR a1_2, oR b4, oi u12, oi u13, oi u14, oi n15, oR w16, oR w17, oR b19, oR rp_28, oR r_28, oR b19] [(.int (0 : Int32))]) (fun _ k => XS.iload X50.here hx rfl (hb hby at_529) rfl k) ?_
    refine ow (oT T50 m 532 #[oi p0, oi p1, oi p2, oi p3, oi 0, oi u5, oi u6, oi u7, oi u8, oR a1_1, oR a1_2, oR b4, oi u12, oi u13, oi u14, oi n15, oR w16, oR w17, oR b19, oR rp_28, oR r_28, oR b19] [(.int (2 : Int32)), (.int (0 : Int32))]) (fun _ k => XS.iconst X50.here hx rfl (hb hby at_531) k) ?_
    have hc56 : ¬ ((2 : Int32) < (0 : Int32)) := by decide
    refine ow (oT T50 m 574 #[oi p0, oi p1, oi p2, oi p3, oi 0, oi u5, oi u6, oi u7, oi u8, oR a1_1, oR a1_2, oR b4, oi u12, oi u13, oi u14, oi n15, oR w16, oR w17, oR b19, oR rp_28, oR r_28, oR b19] []) (fun _ k => XS.icmpYes X50.here hx rfl (pc0 := 532) (pc' := 574) rfl (hb hby at_532) rfl (flt hc56).2.2.2 (by decide) (by decide) k) ?_
    refine ow (oT T50 m 575 #[oi p0, oi p1, oi p2, oi p3, oi 0, oi u5, oi u6, oi u7, oi u8, oR a1_1, oR a1_2, oR b4, oi u12, oi u13, oi u14, oi n15, oR w16, oR w17, oR b19, oR rp_28, oR r_28, oR b19] [(.int (1 : Int32))]) (fun _ k => XS.iconst X50.here hx rfl (hb hby at_574) k) ?_
    obtain ⟨fs, hr, hrun, hended, hR1, hR2, hR3, hR4⟩ := X50.leaveW hSj18 (by rw [eq50]; omega) (v := some (.int (1 : Int32))) (fun h => by rw [Bd.returns] at h; cases h)
    refine ⟨_, _, ?_, hP _ _ hrun hended ⟨_, _, rfl, ?_, hR1, hR2, hR3, hR4.mono (by decide) (by decide)⟩⟩
    · exact retN X50 hx (t := .boolean) Bd.returns (by simp) (hb hby at_575) hr
    ·
     show Qrm0 Z p0 p1 p2 p3 de kde em zc h0 n0 _ T50.heap _
     rw [eq50]
     exact ⟨rfl, N50, trivial⟩
   ·
    refine ow (oT T23 m 326 #[oi p0, oi p1, oi p2, oi p3, oi 1, oi u5, oi u6, oi u7, oi u8, oR a1_1, oR a1_2, oR b4, oi u12, oi u13, oi u14, oi n15, oR w16, oR w17, oR b19, .unset, .unset, .unset] [(.int (1 : Int32))]) (fun _ k => XS.iload X23.here hx rfl (hb hby at_324) rfl k) ?_
    have hc58 : (0 : Int32) < (1 : Int32) := by decide
    refine ow (oT T23 m 329 #[oi p0, oi p1, oi p2, oi p3, oi 1, oi u5, oi u6, oi u7, oi u8, oR a1_1, oR a1_2, oR b4, oi u12, oi u13, oi u14, oi n15, oR w16, oR w17, oR b19, .unset, .unset, .unset] []) (fun _ k => XS.ifNo X23.here hx rfl (hb hby at_326) rfl ((if0 _ _).trans (tlt hc58).2.2.2) k) ?_
    refine ow (oT T23 m 331 #[oi p0, oi p1, oi p2, oi p3, oi 1, oi u5, oi u6, oi u7, oi u8, oR a1_1, oR a1_2, oR b4, oi u12, oi u13, oi u14, oi n15, oR w16, oR w17, oR b19, .unset, .unset, .unset] [(.ref b19)]) (fun _ k => XS.aload X23.here hx rfl (hb hby at_329) rfl rfl k) ?_
    refine ow (oT T23 m 333 #[oi p0, oi p1, oi p2, oi p3, oi 1, oi u5, oi u6, oi u7, oi u8, oR a1_1, oR a1_2, oR b4, oi u12, oi u13, oi u14, oi n15, oR w16, oR w17, oR b19, .unset, .unset, .unset] [(.ref a1_1), (.ref b19)]) (fun _ k => XS.aload X23.here hx rfl (hb hby at_331) rfl rfl k) ?_
    have c60 : Sta Z h23 oS1 oS10 oS3 (.ref de) := (own_sta_keep c24 K23 (allS (P := fun x => ∀ c : Cell, h19[x]? = some c → c.vm.isStatics = false) (own_pl_exa A19) all0))
    have c61 : Arv Z h23 de kde (.object oS2) (0 : Int32) [] .null := ((fj18_2.ext E19).keep K23 (ninS (own_ne (by omega)) nin0))
    have c62 : Exa Z h23 a1_1 oS0 := ((fj18_4.ext E19).keep K23)
    obtain ⟨cq59, kq59, q59a, q59b, q59c⟩ := isOf hZ e23 g23_0
    obtain ⟨_, _, ⟨T59, LC59, kC59, nC59⟩, -, X59, ⟨Lc59, hQ59, lq59, yq59, zq59⟩, st59⟩ := X23.interfaceBack hx (xi := oM22) (y := oM8) hown (mvT hZ (own_hw hw 167)) (mvT hZ (own_hw hw 168)) (mvT hZ (own_hw hw 169)) (mvT hZ (own_hw hw 170)) (mvT hZ (own_hw hw 171)) (mvT hZ (own_hw hw 172)) (mvT hZ (own_hw hw 173)) (mvT hZ (own_hw hw 163)) (by decide) (backOf (W := 0) (rap_0 l Z a0 hw [] b19 (0 : Int32) a1_1 de kde h23 n0 (by omega) g23_0 g23_1 g23_2 g23_3 c60 c61 (by omega) (own_ne (by omega)) c62) hZ (own_hw hw 174) (own_hw hw 46) (by decide) (by decide)) q59a q59b q59c (g := (mkF m 333 #[oi p0, oi p1, oi p2, oi p3, oi 1, oi u5, oi u6, oi u7, oi u8, oR a1_1, oR a1_2, oR b4, oi u12, oi u13, oi u14, oi n15, oR w16, oR w17, oR b19, .unset, .unset, .unset] [(.ref a1_1), (.ref b19)])) rfl hml.symm (Steps.refl _) (argsL := [(.ref a1_1)]) (rest := []) (lenOf pd_24 rfl) rfl (Nat.le_of_eq rfl) (hb hby at_333) (fun _ _ => ⟨rfl, e23, (by decide : 25 + 1 ≤ _), (by decide : 203 + 10 ≤ _)⟩)
    dsimp only [Pt.U, Pt.locs, Pt.cells, Pt.slots] at X59 lq59 yq59 zq59 st59 hQ59
    subst lq59 yq59 zq59
    obtain ⟨h59, e59⟩ : ∃ z, T59.heap = z := ⟨_, rfl⟩
    rw [e59] at hQ59
    obtain ⟨ea_59, ke_59, rfl, Nq59, K59, g59_0, g59_1, g59_2, g59_3, g59_4, g59_5, g59_6⟩ := hQ59
    have sz59 : h23.size ≤ h59.size := K59.1
    have N59 := Fr.app N23 Nq59
    have lt59_1 : @LT.lt Nat _ b19 h59.size := g59_0.lt
    have lt59_2 : @LT.lt Nat _ ea_59 h59.size := g59_4.lt
    refine ow (oT T59 m 338 #[oi p0, oi p1, oi p2, oi p3, oi 1, oi u5, oi u6, oi u7, oi u8, oR a1_1, oR a1_2, oR b4, oi u12, oi u13, oi u14, oi n15, oR w16, oR w17, oR b19, .unset, .unset, .unset] [(.int (1 : Int32))]) (fun _ k => st59.trans k) ?_
    refine ow (oT T59 m 339 #[oi p0, oi p1, oi p2, oi p3, oi 1, oi u5, oi u6, oi u7, oi u8, oR a1_1, oR a1_2, oR b4, oi u12, oi u13, oi u14, oi n15, oR w16, oR w17, oR b19, .unset, .unset, .unset] []) (fun _ k => XS.pop X59.here hx rfl (hb hby at_338) rfl rfl k) ?_
    refine ow (oT T59 m 341 #[oi p0, oi p1, oi p2, oi p3, oi 1, oi u5, oi u6, oi u7, oi u8, oR a1_1, oR a1_2, oR b4, oi u12, oi u13, oi u14, oi n15, oR w16, oR w17, oR b19, .unset, .unset, .unset] [(.int (1 : Int32))]) (fun _ k => XS.iload X59.here hx rfl (hb hby at_339) rfl k) ?_
    refine ow (oT T59 m 342 #[oi p0, oi p1, oi p2, oi p3, oi 1, oi u5, oi u6, oi u7, oi u8, oR a1_1, oR a1_2, oR b4, oi u12, oi u13, oi u14, oi n15, oR w16, oR w17, oR b19, .unset, .unset, .unset] [(.int (1 : Int32)), (.int (1 : Int32))]) (fun _ k => XS.iconst X59.here hx rfl (hb hby at_341) k) ?_
    have hc63 : ¬ ((1 : Int32) < (1 : Int32)) := by decide
    refine ow (oT T59 m 355 #[oi p0, oi p1, oi p2, oi p3, oi 1, oi u5, oi u6, oi u7, oi u8, oR a1_1, oR a1_2, oR b4, oi u12, oi u13, oi u14, oi n15, oR w16, oR w17, oR b19, .unset, .unset, .unset] []) (fun _ k => XS.icmpYes X59.here hx rfl (pc0 := 342) (pc' := 355) rfl (hb hby at_342) rfl (flt hc63).2.2.2 (by decide) (by decide) k) ?_
    refine ow (oT T59 m 357 #[oi p0, oi p1, oi p2, oi p3, oi 1, oi u5, oi u6, oi u7, oi u8, oR a1_1, oR a1_2, oR b4, oi u12, oi u13, oi u14, oi n15, oR w16, oR w17, oR b19, .unset, .unset, .unset] [(.int (1 : Int32))]) (fun _ k => XS.iload X59.here hx rfl (hb hby at_355) rfl k) ?_
    refine ow (oT T59 m 358 #[oi p0, oi p1, oi p2, oi p3, oi 1, oi u5, oi u6, oi u7, oi u8, oR a1_1, oR a1_2, oR b4, oi u12, oi u13, oi u14, oi n15, oR w16, oR w17, oR b19, .unset, .unset, .unset] [(.int (2 : Int32)), (.int (1 : Int32))]) (fun _ k => XS.iconst X59.here hx rfl (hb hby at_357) k) ?_
    have hc64 : ¬ ((2 : Int32) < (1 : Int32)) := by decide
    refine ow (oT T59 m 371 #[oi p0, oi p1, oi p2, oi p3, oi 1, oi u5, oi u6, oi u7, oi u8, oR a1_1, oR a1_2, oR b4, oi u12, oi u13, oi u14, oi n15, oR w16, oR w17, oR b19, .unset, .unset, .unset] []) (fun _ k => XS.icmpYes X59.here hx rfl (pc0 := 358) (pc' := 371) rfl (hb hby at_358) rfl (flt hc64).2.2.2 (by decide) (by decide) k) ?_
    refine ow (oT T59 m 373 #[oi p0, oi p1, oi p2, oi p3, oi 1, oi u5, oi u6, oi u7, oi u8, oR a1_1, oR a1_2, oR b4, oi u12, oi u13, oi u14, oi n15, oR w16, oR w17, oR b19, .unset, .unset, .unset] [(.ref b19)]) (fun _ k => XS.aload X59.here hx rfl (hb hby at_371) rfl rfl k) ?_
    refine ow (oT T59 m 375 #[oi p0, oi p1, oi p2, oi p3, oi 1, oi u5, oi u6, oi u7, oi u8, oR a1_1, oR a1_2, oR b4, oi u12, oi u13, oi u14, oi n15, oR w16, oR w17, oR b19, .unset, .unset, .unset] [(.ref w16), (.ref b19)]) (fun _ k => XS.aload X59.here hx rfl (hb hby at_373) rfl rfl k) ?_
    have c66 : Sta Z h59 oS7 "EMPTY" oS5 (.ref em) := (own_sta_keep (own_sta_keep (fj18_3.ext E19) K23 (allS (P := fun x => ∀ c : Cell, h19[x]? = some c → c.vm.isStatics = false) (own_pl_exa A19) all0)) K59 (allS (P := fun x => ∀ c : Cell, h23[x]? = some c → c.vm.isStatics = false) (own_pl_exa g23_0) all0))
    obtain ⟨_, _, ⟨T65, LC65, kC65, nC65⟩, -, X65, ⟨Lc65, hQ65, lq65, yq65, zq65⟩, st65⟩ := Jvm.LawKit.callS X59 hx (y := oM19) hown (mvT hZ (own_hw hw 68)) (mvT hZ (own_hw hw 69)) (mvT hZ (own_hw hw 70)) (mvT hZ (own_hw hw 71)) (by decide) (backOf (W := 0) (rm14 l Z a0 hw [] b19 w16 em h59 n0 (by omega) c66) hZ (own_hw hw 71) (own_hw hw 70) (by decide) (by decide)) (g := (mkF m 375 #[oi p0, oi p1, oi p2, oi p3, oi 1, oi u5, oi u6, oi u7, oi u8, oR a1_1, oR a1_2, oR b4, oi u12, oi u13, oi u14, oi n15, oR w16, oR w17, oR b19, .unset, .unset, .unset] [(.ref w16), (.ref b19)])) rfl hml.symm (argsL := [(.ref b19), (.ref w16)]) (rest := []) (lenOf pd_21 rfl) rfl (Nat.le_of_eq rfl) (hb hby at_375) (fun _ _ => ⟨rfl, e59, (by decide : 26 + 2 ≤ _), (by decide : 213 + 5 ≤ _)⟩)
    dsimp only [Pt.U, Pt.locs, Pt.cells, Pt.slots] at X65 lq65 yq65 zq65 st65 hQ65
    subst lq65 yq65 zq65
    obtain ⟨h65, e65⟩ : ∃ z, T65.heap = z := ⟨_, rfl⟩
    rw [e65] at hQ65
    obtain ⟨rp_65, r_65, rfl, Nq65, K65, g65_0, g65_1, g65_2, g65_3, g65_4, g65_5, g65_6, g65_7, g65_8⟩ := hQ65
    have sz65 : h59.size ≤ h65.size := K65.1
    have N65 := Fr.app N59 Nq65
    have lt65_1 : @LT.lt Nat _ rp_65 h65.size := g65_0.lt
    have lt65_2 : @LT.lt Nat _ r_65 h65.size := g65_4.lt
    refine ow (oT T65 m 378 #[oi p0, oi p1, oi p2, oi p3, oi 1, oi u5, oi u6, oi u7, oi u8, oR a1_1, oR a1_2, oR b4, oi u12, oi u13, oi u14, oi n15, oR w16, oR w17, oR b19, .unset, .unset, .unset] [(.ref rp_65)]) (fun t k => st65 t k) ?_
    refine ow (oT T65 m 380 #[oi p0, oi p1, oi p2, oi p3, oi 1, oi u5, oi u6, oi u7, oi u8, oR a1_1, oR a1_2, oR b4, oi u12, oi u13, oi u14, oi n15, oR w16, oR w17, oR b19, oR rp_65, .unset, .unset] []) (fun _ k => XS.astore X65.here hx rfl (hb hby at_378) rfl rfl (l' := #[oi p0, oi p1, oi p2, oi p3, oi 1, oi u5, oi u6, oi u7, oi u8, oR a1_1, oR a1_2, oR b4, oi u12, oi u13, oi u14, oi n15, oR w16, oR w17, oR b19, oR rp_65, .unset, .unset]) rfl k) ?_
    refine ow (oT T65 m 382 #[oi p0, oi p1, oi p2, oi p3, oi 1, oi u5, oi u6, oi u7, oi u8, oR a1_1, oR a1_2, oR b4, oi u12, oi u13, oi u14, oi n15, oR w16, oR w17, oR b19, oR rp_65, .unset, .unset] [(.ref rp_65)]) (fun _ k => XS.aload X65.here hx rfl (hb hby at_380) rfl rfl k) ?_
    obtain ⟨cq67, kq67, q67a, q67b, q67c⟩ := isOf hZ e65 g65_0
    obtain ⟨_, _, ⟨T67, LC67, kC67, nC67⟩, -, X67, ⟨Lc67, hQ67, lq67, yq67, zq67⟩, st67⟩ := X65.virtualBack hx (y := oM9) (z := oM9) hown (mvT hZ (own_hw hw 119)) (mvT hZ (own_hw hw 120)) (notFace_of_selects (args := #[]) (mvT hZ (own_hw hw 122))) (mvT hZ (own_hw hw 122)) (mvT hZ (own_hw hw 121)) (by decide) (backOf (W := 0) (rm21 l Z a0 hw [] rp_65 (0 : Int32) h65 n0 (by omega) g65_1) hZ (own_hw hw 123) (own_hw hw 70) (by decide) (by decide)) q67a q67c (g := (mkF m 382 #[oi p0, oi p1, oi p2, oi p3, oi 1, oi u5, oi u6, oi u7, oi u8, oR a1_1, oR a1_2, oR b4, oi u12, oi u13, oi u14, oi n15, oR w16, oR w17, oR b19, oR rp_65, .unset, .unset] [(.ref rp_65)])) rfl hml.symm (Steps.refl _) (argsL := []) (rest := []) (lenOf pd_22 rfl) rfl (Nat.le_of_eq rfl) (hb hby at_382) (fun _ _ => ⟨rfl, e65, (by decide : 28 + 0 ≤ _), (by decide : 218 + 0 ≤ _)⟩)
    dsimp only [Pt.U, Pt.locs, Pt.cells, Pt.slots] at X67 lq67 yq67 zq67 st67 hQ67
    subst lq67 yq67 zq67
    obtain ⟨rfl, Nq67, eq67⟩ := hQ67
    have N67 := Fr.app N65 Nq67
    refine ow (oT T67 m 385 #[oi p0, oi p1, oi p2, oi p3, oi 1, oi u5, oi u6, oi u7, oi u8, oR a1_1, oR a1_2, oR b4, oi u12, oi u13, oi u14, oi n15, oR w16, oR w17, oR b19, oR rp_65, .unset, .unset] [(.int (0 : Int32))]) (fun _ k => st67.trans k) ?_
    have hc68 : (0 : Int32) = (0 : Int32) := by decide
    refine ow (oT T67 m 390 #[oi p0, oi p1, oi p2, oi p3, oi 1, oi u5, oi u6, oi u7, oi u8, oR a1_1, oR a1_2, oR b4, oi u12, oi u13, oi u14, oi n15, oR w16, oR w17, oR b19, oR rp_65, .unset, .unset] []) (fun _ k => XS.ifYes X67.here hx rfl (pc0 := 385) (pc' := 390) rfl (hb hby at_385) rfl ((if0 _ _).trans (teq hc68).1) (by decide) (by decide) k) ?_
    refine ow (oT T67 m 392 #[oi p0, oi p1, oi p2, oi p3, oi 1, oi u5, oi u6, oi u7, oi u8, oR a1_1, oR a1_2, oR b4, oi u12, oi u13, oi u14, oi n15, oR w16, oR w17, oR b19, oR rp_65, .unset, .unset] [(.ref rp_65)]) (fun _ k => XS.aload X67.here hx rfl (hb hby at_390) rfl rfl k) ?_
    obtain ⟨cq69, kq69, q69a, q69b, q69c⟩ := isOf hZ eq67 g65_0
    obtain ⟨_, _, ⟨T69, LC69, kC69, nC69⟩, -, X69, ⟨Lc69, hQ69, lq69, yq69, zq69⟩, st69⟩ := X67.virtualBack hx (y := oM10) (z := oM10) hown (mvT hZ (own_hw hw 124)) (mvT hZ (own_hw hw 125)) (notFace_of_selects (args := #[]) (mvT hZ (own_hw hw 127))) (mvT hZ (own_hw hw 127)) (mvT hZ (own_hw hw 126)) (by decide) (backOf (W := 0) (rm22 l Z a0 hw [] rp_65 r_65 h65 n0 (by omega) g65_3) hZ (own_hw hw 128) (own_hw hw 70) (by decide) (by decide)) q69a q69c (g := (mkF m 392 #[oi p0, oi p1, oi p2, oi p3, oi 1, oi u5, oi u6, oi u7, oi u8, oR a1_1, oR a1_2, oR b4, oi u12, oi u13, oi u14, oi n15, oR w16, oR w17, oR b19, oR rp_65, .unset, .unset] [(.ref rp_65)])) rfl hml.symm (Steps.refl _) (argsL := []) (rest := []) (lenOf pd_23 rfl) rfl (Nat.le_of_eq rfl) (hb hby at_392) (fun _ _ => ⟨rfl, eq67, (by decide : 28 + 0 ≤ _), (by decide : 218 + 0 ≤ _)⟩)
    dsimp only [Pt.U, Pt.locs, Pt.cells, Pt.slots] at X69 lq69 yq69 zq69 st69 hQ69
    subst lq69 yq69 zq69
    obtain ⟨rfl, Nq69, eq69⟩ := hQ69
    have N69 := Fr.app N67 Nq69
    refine ow (oT T69 m 395 #[oi p0, oi p1, oi p2, oi p3, oi 1, oi u5, oi u6, oi u7, oi u8, oR a1_1, oR a1_2, oR b4, oi u12, oi u13, oi u14, oi n15, oR w16, oR w17, oR b19, oR rp_65, .unset, .unset] [(.ref r_65)]) (fun _ k => st69.trans k) ?_
    refine ow (oT T69 m 397 #[oi p0, oi p1, oi p2, oi p3, oi 1, oi u5, oi u6, oi u7, oi u8, oR a1_1, oR a1_2, oR b4, oi u12, oi u13, oi u14, oi n15, oR w16, oR w17, oR b19, oR rp_65, oR r_65, .unset] []) (fun _ k => XS.astore X69.here hx rfl (hb hby at_395) rfl rfl (l' := #[oi p0, oi p1, oi p2, oi p3, oi 1, oi u5, oi u6, oi u7, oi u8, oR a1_1, oR a1_2, oR b4, oi u12, oi u13, oi u14, oi n15, oR w16, oR w17, oR b19, oR rp_65, oR r_65, .unset]) rfl k) ?_
    refine ow (oT T69 m 399 #[oi p0, oi p1, oi p2, oi p3, oi 1, oi u5, oi u6, oi u7, oi u8, oR a1_1, oR a1_2, oR b4, oi u12, oi u13, oi u14, oi n15, oR w16, oR w17, oR b19, oR rp_65, oR r_65, .unset] [(.ref r_65)]) (fun _ k => XS.aload X69.here hx rfl (hb hby at_397) rfl rfl k) ?_
    have c71 : Sta Z h65 oS7 "EMPTY" oS5 (.ref em) := (own_sta_keep c66 K65 all0)
    obtain ⟨cq70, kq70, q70a, q70b, q70c⟩ := isOf hZ eq69 g65_4
    obtain ⟨_, _, ⟨T70, LC70, kC70, nC70⟩, -, X70, ⟨Lc70, hQ70, lq70, yq70, zq70⟩, st70⟩ := X69.interfaceBack hx (xi := oM17) (y := oM20) hown (mvT hZ (own_hw hw 129)) (mvT hZ (own_hw hw 130)) (mvT hZ (own_hw hw 131)) (mvT hZ (own_hw hw 132)) (mvT hZ (own_hw hw 133)) (mvT hZ (own_hw hw 134)) (mvT hZ (own_hw hw 135)) (mvT hZ (own_hw hw 136)) (by decide) (backOf (W := 0) (rm23 l Z a0 hw [] r_65 em h65 n0 (by omega) g65_6 c71) hZ (own_hw hw 137) (own_hw hw 80) (by decide) (by decide)) q70a q70b q70c (g := (mkF m 399 #[oi p0, oi p1, oi p2, oi p3, oi 1, oi u5, oi u6, oi u7, oi u8, oR a1_1, oR a1_2, oR b4, oi u12, oi u13, oi u14, oi n15, oR w16, oR w17, oR b19, oR rp_65, oR r_65, .unset] [(.ref r_65)])) rfl hml.symm (Steps.refl _) (argsL := []) (rest := []) (lenOf pd_22 rfl) rfl (Nat.le_of_eq rfl) (hb hby at_399) (fun _ _ => ⟨rfl, eq69, (by decide : 28 + 0 ≤ _), (by decide : 218 + 0 ≤ _)⟩)
    dsimp only [Pt.U, Pt.locs, Pt.cells, Pt.slots] at X70 lq70 yq70 zq70 st70 hQ70
    subst lq70 yq70 zq70
    obtain ⟨rfl, Nq70, eq70⟩ := hQ70
    have N70 := Fr.app N69 Nq70
    refine ow (oT T70 m 404 #[oi p0, oi p1, oi p2, oi p3, oi 1, oi u5, oi u6, oi u7, oi u8, oR a1_1, oR a1_2, oR b4, oi u12, oi u13, oi u14, oi n15, oR w16, oR w17, oR b19, oR rp_65, oR r_65, .unset] [(.int (1 : Int32))]) (fun _ k => st70.trans k) ?_
    refine ow (oT T70 m 405 #[oi p0, oi p1, oi p2, oi p3, oi 1, oi u5, oi u6, oi u7, oi u8, oR a1_1, oR a1_2, oR b4, oi u12, oi u13, oi u14, oi n15, oR w16, oR w17, oR b19, oR rp_65, oR r_65, .unset] [(.int (1 : Int32)), (.int (1 : Int32))]) (fun _ k => XS.iconst X70.here hx rfl (hb hby at_404) k) ?_
    have hc72 : (1 : Int32) = (1 : Int32) := by decide
    refine ow (oT T70 m 408 #[oi p0, oi p1, oi p2, oi p3, oi 1, oi u5, oi u6, oi u7, oi u8, oR a1_1, oR a1_2, oR b4, oi u12, oi u13, oi u14, oi n15, oR w16, oR w17, oR b19, oR rp_65, oR r_65, .unset] []) (fun _ k => XS.icmpNo X70.here hx rfl (hb hby at_405) rfl (teq hc72).2 k) ?_
    refine ow (oT T70 m 410 #[oi p0, oi p1, oi p2, oi p3, oi 1, oi u5, oi u6, oi u7, oi u8, oR a1_1, oR a1_2, oR b4, oi u12, oi u13, oi u14, oi n15, oR w16, oR w17, oR b19, oR rp_65, oR r_65, .unset] [(.ref r_65)]) (fun _ k => XS.aload X70.here hx rfl (hb hby at_408) rfl rfl k) ?_
    refine ow (oT T70 m 411 #[oi p0, oi p1, oi p2, oi p3, oi 1, oi u5, oi u6, oi u7, oi u8, oR a1_1, oR a1_2, oR b4, oi u12, oi u13, oi u14, oi n15, oR w16, oR w17, oR b19, oR rp_65, oR r_65, .unset] [(.int (0 : Int32)), (.ref r_65)]) (fun _ k => XS.iconst X70.here hx rfl (hb hby at_410) k) ?_
    obtain ⟨cq73, kq73, q73a, q73b, q73c⟩ := isOf hZ eq70 g65_4
    obtain ⟨_, _, ⟨T73, LC73, kC73, nC73⟩, -, X73, ⟨Lc73, hQ73, lq73, yq73, zq73⟩, st73⟩ := X70.interfaceBack hx (xi := oM12) (y := oM21) hown (mvT hZ (own_hw hw 138)) (mvT hZ (own_hw hw 139)) (mvT hZ (own_hw hw 140)) (mvT hZ (own_hw hw 141)) (mvT hZ (own_hw hw 142)) (mvT hZ (own_hw hw 143)) (mvT hZ (own_hw hw 144)) (mvT hZ (own_hw hw 136)) (by decide) (backOf (W := 0) (rm24 l Z a0 hw [] r_65 w16 h65 n0 (by omega) g65_5) hZ (own_hw hw 145) (own_hw hw 80) (by decide) (by decide)) q73a q73b q73c (g := (mkF m 411 #[oi p0, oi p1, oi p2, oi p3, oi 1, oi u5, oi u6, oi u7, oi u8, oR a1_1, oR a1_2, oR b4, oi u12, oi u13, oi u14, oi n15, oR w16, oR w17, oR b19, oR rp_65, oR r_65, .unset] [(.int (0 : Int32)), (.ref r_65)])) rfl hml.symm (Steps.refl _) (argsL := [(.int (0 : Int32))]) (rest := []) (lenOf pd_14 rfl) rfl (Nat.le_of_eq rfl) (hb hby at_411) (fun _ _ => ⟨rfl, eq70, (by decide : 28 + 0 ≤ _), (by decide : 218 + 0 ≤ _)⟩)
    dsimp only [Pt.U, Pt.locs, Pt.cells, Pt.slots] at X73 lq73 yq73 zq73 st73 hQ73
    subst lq73 yq73 zq73
    obtain ⟨rfl, Nq73, eq73⟩ := hQ73
    have N73 := Fr.app N70 Nq73
    refine ow (oT T73 m 416 #[oi p0, oi p1, oi p2, oi p3, oi 1, oi u5, oi u6, oi u7, oi u8, oR a1_1, oR a1_2, oR b4, oi u12, oi u13, oi u14, oi n15, oR w16, oR w17, oR b19, oR rp_65, oR r_65, .unset] [(.ref w16)]) (fun _ k => st73.trans k) ?_
    have c75 : Exa Z h65 w16 oS0 := ((((fj18_16.ext E19).keep K23).keep K59).keep K65)
    obtain ⟨T74, X74, e74, st74⟩ := castY X73 hx hZ hown (own_hw hw 26) eq73 (Ins.self c75) (g := (mkF m 416 #[oi p0, oi p1, oi p2, oi p3, oi 1, oi u5, oi u6, oi u7, oi u8, oR a1_1, oR a1_2, oR b4, oi u12, oi u13, oi u14, oi n15, oR w16, oR w17, oR b19, oR rp_65, oR r_65, .unset] [(.ref w16)])) rfl rfl (hb hby at_416)
    refine ow (oT T74 m 419 #[oi p0, oi p1, oi p2, oi p3, oi 1, oi u5, oi u6, oi u7, oi u8, oR a1_1, oR a1_2, oR b4, oi u12, oi u13, oi u14, oi n15, oR w16, oR w17, oR b19, oR rp_65, oR r_65, .unset] [(.ref w16)]) (st74) ?_
    refine ow (oT T74 m 421 #[oi p0, oi p1, oi p2, oi p3, oi 1, oi u5, oi u6, oi u7, oi u8, oR a1_1, oR a1_2, oR b4, oi u12, oi u13, oi u14, oi n15, oR w16, oR w17, oR b19, oR rp_65, oR r_65, .unset] [(.ref w17), (.ref w16)]) (fun _ k => XS.aload X74.here hx rfl (hb hby at_419) rfl rfl k) ?_
    have c77 : Sta Z h65 oS0 oS4 "Z" (.int zc) := (own_sta_keep (own_sta_keep (own_sta_keep (fj18_0.ext E19) K23 (allS (P := fun x => ∀ c : Cell, h19[x]? = some c → c.vm.isStatics = false) (own_pl_exa A19) all0)) K59 (allS (P := fun x => ∀ c : Cell, h23[x]? = some c → c.vm.isStatics = false) (own_pl_exa g23_0) all0)) K65 all0)
    have c78 : Fld Z h65 w16 oS0 "value" "[B" (.ref r16) := ((((fj18_17.ext E19).keep K23 (ninS (own_ne (by omega)) nin0)).keep K59 (ninS (own_ne (by omega)) nin0)).keep K65 nin0)
    have c79 : Fld Z h65 w16 oS0 "coder" "B" (.int (0 : Int32)) := ((((fj18_18.ext E19).keep K23 (ninS (own_ne (by omega)) nin0)).keep K59 (ninS (own_ne (by omega)) nin0)).keep K65 nin0)
    have c80 : Exa Z h65 w17 oS0 := ((((fj18_20.ext E19).keep K23).keep K59).keep K65)
    have c81 : Fld Z h65 w17 oS0 "value" "[B" (.ref r17) := ((((fj18_21.ext E19).keep K23 (ninS (own_ne (by omega)) nin0)).keep K59 (ninS (own_ne (by omega)) nin0)).keep K65 nin0)
    have c82 : Fld Z h65 w17 oS0 "coder" "B" (.int (0 : Int32)) := ((((fj18_22.ext E19).keep K23 (ninS (own_ne (by omega)) nin0)).keep K59 (ninS (own_ne (by omega)) nin0)).keep K65 nin0)
    have c83 : Arv Z h65 r16 k16 .byte n15 (own_bs n15 u12 u13 u14) (.int (0 : Int32)) := ((((fj18_19.ext E19).keep K23 (ninS (own_ne (by omega)) nin0)).keep K59 (ninS (own_ne (by omega)) nin0)).keep K65 nin0)
    have c84 : Arv Z h65 r17 k17 .byte n15 (own_bs n15 u12 u13 u14) (.int (0 : Int32)) := ((((fj18_23.ext E19).keep K23 (ninS (own_ne (by omega)) nin0)).keep K59 (ninS (own_ne (by omega)) nin0)).keep K65 nin0)
    obtain ⟨cq76, kq76, q76a, q76b, q76c⟩ := isOf hZ e74 c75
    obtain ⟨_, _, ⟨T76, LC76, kC76, nC76⟩, -, X76, ⟨Lc76, hQ76, lq76, yq76, zq76⟩, st76⟩ := X74.virtualBack hx (y := oM1) (z := oM1) hown (mvT hZ (own_hw hw 146)) (mvT hZ (own_hw hw 147)) (notFace_of_selects (args := #[]) (mvT hZ (own_hw hw 149))) (mvT hZ (own_hw hw 149)) (mvT hZ (own_hw hw 148)) (by decide) (backOf (W := 0) (rse_gen l Z a0 hw [] w16 w17 zc r16 k16 n15 (own_bs n15 u12 u13 u14) r17 k17 h65 n0 (by omega) c77 (by assumption) (own_ne (by omega)) c75 c78 c79 c80 c81 c82 c83 c84 (own_bs_sh ht_n15)) hZ (own_hw hw 150) (own_hw hw 2) (by decide) (by decide)) q76a q76c (g := (mkF m 421 #[oi p0, oi p1, oi p2, oi p3, oi 1, oi u5, oi u6, oi u7, oi u8, oR a1_1, oR a1_2, oR b4, oi u12, oi u13, oi u14, oi n15, oR w16, oR w17, oR b19, oR rp_65, oR r_65, .unset] [(.ref w17), (.ref w16)])) rfl hml.symm (Steps.refl _) (argsL := [(.ref w17)]) (rest := []) (lenOf pd_24 rfl) rfl (Nat.le_of_eq rfl) (hb hby at_421) (fun _ _ => ⟨rfl, e74, (by decide : 28 + 0 ≤ _), (by decide : 218 + 0 ≤ _)⟩)
    dsimp only [Pt.U, Pt.locs, Pt.cells, Pt.slots] at X76 lq76 yq76 zq76 st76 hQ76
    subst lq76 yq76 zq76
    obtain ⟨rfl, Nq76, eq76⟩ := hQ76
    have N76 := Fr.app N73 Nq76
    refine ow (oT T76 m 424 #[oi p0, oi p1, oi p2, oi p3, oi 1, oi u5, oi u6, oi u7, oi u8, oR a1_1, oR a1_2, oR b4, oi u12, oi u13, oi u14, oi n15, oR w16, oR w17, oR b19, oR rp_65, oR r_65, .unset] [(.int (1 : Int32))]) (fun _ k => st76.trans k) ?_
    have hc85 : ¬ ((1 : Int32) = (0 : Int32)) := by decide
    refine ow (oT T76 m 429 #[oi p0, oi p1, oi p2, oi p3, oi 1, oi u5, oi u6, oi u7, oi u8, oR a1_1, oR a1_2, oR b4, oi u12, oi u13, oi u14, oi n15, oR w16, oR w17, oR b19, oR rp_65, oR r_65, .unset] []) (fun _ k => XS.ifYes X76.here hx rfl (pc0 := 424) (pc' := 429) rfl (hb hby at_424) rfl ((if0 _ _).trans (feq hc85).2) (by decide) (by decide) k) ?_
    refine ow (oT T76 m 431 #[oi p0, oi p1, oi p2, oi p3, oi 1, oi u5, oi u6, oi u7, oi u8, oR a1_1, oR a1_2, oR b4, oi u12, oi u13, oi u14, oi n15, oR w16, oR w17, oR b19, oR rp_65, oR r_65, .unset] [(.ref rp_65)]) (fun _ k => XS.aload X76.here hx rfl (hb hby at_429) rfl rfl k) ?_
    obtain ⟨cq86, kq86, q86a, q86b, q86c⟩ := isOf hZ eq76 g65_0
    obtain ⟨_, _, ⟨T86, LC86, kC86, nC86⟩, -, X86, ⟨Lc86, hQ86, lq86, yq86, zq86⟩, st86⟩ := X76.virtualBack hx (y := oM11) (z := oM11) hown (mvT hZ (own_hw hw 154)) (mvT hZ (own_hw hw 155)) (notFace_of_selects (args := #[]) (mvT hZ (own_hw hw 157))) (mvT hZ (own_hw hw 157)) (mvT hZ (own_hw hw 156)) (by decide) (backOf (W := 0) (rm27 l Z a0 hw [] rp_65 b19 h65 n0 (by omega) g65_2) hZ (own_hw hw 158) (own_hw hw 70) (by decide) (by decide)) q86a q86c (g := (mkF m 431 #[oi p0, oi p1, oi p2, oi p3, oi 1, oi u5, oi u6, oi u7, oi u8, oR a1_1, oR a1_2, oR b4, oi u12, oi u13, oi u14, oi n15, oR w16, oR w17, oR b19, oR rp_65, oR r_65, .unset] [(.ref rp_65)])) rfl hml.symm (Steps.refl _) (argsL := []) (rest := []) (lenOf pd_23 rfl) rfl (Nat.le_of_eq rfl) (hb hby at_431) (fun _ _ => ⟨rfl, eq76, (by decide : 28 + 0 ≤ _), (by decide : 218 + 0 ≤ _)⟩)
    dsimp only [Pt.U, Pt.locs, Pt.cells, Pt.slots] at X86 lq86 yq86 zq86 st86 hQ86
    subst lq86 yq86 zq86
    obtain ⟨rfl, Nq86, eq86⟩ := hQ86
    have N86 := Fr.app N76 Nq86
    refine ow (oT T86 m 434 #[oi p0, oi p1, oi p2, oi p3, oi 1, oi u5, oi u6, oi u7, oi u8, oR a1_1, oR a1_2, oR b4, oi u12, oi u13, oi u14, oi n15, oR w16, oR w17, oR b19, oR rp_65, oR r_65, .unset] [(.ref b19)]) (fun _ k => st86.trans k) ?_
    refine ow (oT T86 m 436 #[oi p0, oi p1, oi p2, oi p3, oi 1, oi u5, oi u6, oi u7, oi u8, oR a1_1, oR a1_2, oR b4, oi u12, oi u13, oi u14, oi n15, oR w16, oR w17, oR b19, oR rp_65, oR r_65, oR b19] []) (fun _ k => XS.astore X86.here hx rfl (hb hby at_434) rfl rfl (l' := #[oi p0, oi p1, oi p2, oi p3, oi 1, oi u5, oi u6, oi u7, oi u8, oR a1_1, oR a1_2, oR b4, oi u12, oi u13, oi u14, oi n15, oR w16, oR w17, oR b19, oR rp_65, oR r_65, oR b19]) rfl k) ?_
    refine ow (oT T86 m 438 #[oi p0, oi p1, oi p2, oi p3, oi 1, oi u5, oi u6, oi u7, oi u8, oR a1_1, oR a1_2, oR b4, oi u12, oi u13, oi u14, oi n15, oR w16, oR w17, oR b19, oR rp_65, oR r_65, oR b19] [(.ref b19)]) (fun _ k => XS.aload X86.here hx rfl (hb hby at_436) rfl rfl k) ?_
    have c88 : Fld Z h65 b19 oS1 "size" "I" (.int (1 : Int32)) := (g59_3.keep K65 nin0)
    have c89 : Exa Z h65 b19 oS1 := (g59_0.keep K65)
    obtain ⟨cq87, kq87, q87a, q87b, q87c⟩ := isOf hZ eq86 c89
    obtain ⟨_, _, ⟨T87, LC87, kC87, nC87⟩, -, X87, ⟨Lc87, hQ87, lq87, yq87, zq87⟩, st87⟩ := X86.interfaceBack hx (xi := oM17) (y := oM18) hown (mvT hZ (own_hw hw 129)) (mvT hZ (own_hw hw 130)) (mvT hZ (own_hw hw 131)) (mvT hZ (own_hw hw 159)) (mvT hZ (own_hw hw 160)) (mvT hZ (own_hw hw 161)) (mvT hZ (own_hw hw 162)) (mvT hZ (own_hw hw 163)) (by decide) (backOf (W := 0) (rm28 l Z a0 hw [] b19 (1 : Int32) h65 n0 (by omega) c88) hZ (own_hw hw 164) (own_hw hw 46) (by decide) (by decide)) q87a q87b q87c (g := (mkF m 438 #[oi p0, oi p1, oi p2, oi p3, oi 1, oi u5, oi u6, oi u7, oi u8, oR a1_1, oR a1_2, oR b4, oi u12, oi u13, oi u14, oi n15, oR w16, oR w17, oR b19, oR rp_65, oR r_65, oR b19] [(.ref b19)])) rfl hml.symm (Steps.refl _) (argsL := []) (rest := []) (lenOf pd_22 rfl) rfl (Nat.le_of_eq rfl) (hb hby at_438) (fun _ _ => ⟨rfl, eq86, (by decide : 28 + 0 ≤ _), (by decide : 218 + 0 ≤ _)⟩)
    dsimp only [Pt.U, Pt.locs, Pt.cells, Pt.slots] at X87 lq87 yq87 zq87 st87 hQ87
    subst lq87 yq87 zq87
    obtain ⟨rfl, Nq87, eq87⟩ := hQ87
    have N87 := Fr.app N86 Nq87
    refine ow (oT T87 m 443 #[oi p0, oi p1, oi p2, oi p3, oi 1, oi u5, oi u6, oi u7, oi u8, oR a1_1, oR a1_2, oR b4, oi u12, oi u13, oi u14, oi n15, oR w16, oR w17, oR b19, oR rp_65, oR r_65, oR b19] [(.int (1 : Int32))]) (fun _ k => st87.trans k) ?_
    refine ow (oT T87 m 445 #[oi p0, oi p1, oi p2, oi p3, oi 1, oi u5, oi u6, oi u7, oi u8, oR a1_1, oR a1_2, oR b4, oi u12, oi u13, oi u14, oi n15, oR w16, oR w17, oR b19, oR rp_65, oR r_65, oR b19] [(.int (1 : Int32)), (.int (1 : Int32))]) (fun _ k => XS.iload X87.here hx rfl (hb hby at_443) rfl k) ?_
    have hc90 : (1 : Int32) = (1 : Int32) := by decide
    refine ow (oT T87 m 450 #[oi p0, oi p1, oi p2, oi p3, oi 1, oi u5, oi u6, oi u7, oi u8, oR a1_1, oR a1_2, oR b4, oi u12, oi u13, oi u14, oi n15, oR w16, oR w17, oR b19, oR rp_65, oR r_65, oR b19] []) (fun _ k => XS.icmpYes X87.here hx rfl (pc0 := 445) (pc' := 450) rfl (hb hby at_445) rfl (teq hc90).1 (by decide) (by decide) k) ?_
    refine ow (oT T87 m 452 #[oi p0, oi p1, oi p2, oi p3, oi 1, oi u5, oi u6, oi u7, oi u8, oR a1_1, oR a1_2, oR b4, oi u12, oi u13, oi u14, oi n15, oR w16, oR w17, oR b19, oR rp_65, oR r_65, oR b19] [(.int (1 : Int32))]) (fun _ k => XS.iload X87.here hx rfl (hb hby at_450) rfl k) ?_
    have hc91 : (0 : Int32) < (1 : Int32) := by decide
    refine ow (oT T87 m 455 #[oi p0, oi p1, oi p2, oi p3, oi 1, oi u5, oi u6, oi u7, oi u8, oR a1_1, oR a1_2, oR b4, oi u12, oi u13, oi u14, oi n15, oR w16, oR w17, oR b19, oR rp_65, oR r_65, oR b19] []) (fun _ k => XS.ifNo X87.here hx rfl (hb hby at_452) rfl ((if0 _ _).trans (tlt hc91).2.2.2) k) ?_
    refine ow (oT T87 m 457 #[oi p0, oi p1, oi p2, oi p3, oi 1, oi u5, oi u6, oi u7, oi u8, oR a1_1, oR a1_2, oR b4, oi u12, oi u13, oi u14, oi n15, oR w16, oR w17, oR b19, oR rp_65, oR r_65, oR b19] [(.ref b19)]) (fun _ k => XS.aload X87.here hx rfl (hb hby at_455) rfl rfl k) ?_
    refine ow (oT T87 m 458 #[oi p0, oi p1, oi p2, oi p3, oi 1, oi u5, oi u6, oi u7, oi u8, oR a1_1, oR a1_2, oR b4, oi u12, oi u13, oi u14, oi n15, oR w16, oR w17, oR b19, oR rp_65, oR r_65, oR b19] [(.int (0 : Int32)), (.ref b19)]) (fun _ k => XS.iconst X87.here hx rfl (hb hby at_457) k) ?_
    have c93 : Fld Z h65 b19 oS1 "elementData" oS3 (.ref ea_59) := (g59_2.keep K65 nin0)
    have c94 : Arv Z h65 ea_59 ke_59 (.object oS2) (10 : Int32) [(.ref a1_1), .null, .null, .null, .null, .null, .null, .null, .null, .null] .null := (g59_4.keep K65 nin0)
    obtain ⟨cq92, kq92, q92a, q92b, q92c⟩ := isOf hZ eq87 c89
    obtain ⟨_, _, ⟨T92, LC92, kC92, nC92⟩, -, X92, ⟨Lc92, hQ92, lq92, yq92, zq92⟩, st92⟩ := X87.interfaceBack hx (xi := oM12) (y := oM5) hown (mvT hZ (own_hw hw 138)) (mvT hZ (own_hw hw 139)) (mvT hZ (own_hw hw 140)) (mvT hZ (own_hw hw 199)) (mvT hZ (own_hw hw 200)) (mvT hZ (own_hw hw 201)) (mvT hZ (own_hw hw 202)) (mvT hZ (own_hw hw 163)) (by decide) (backOf (W := 0) (rge_01 l Z a0 hw [] b19 ea_59 ke_59 (.ref a1_1) .null .null h65 n0 (by omega) c89 c88 c93 c94 rfl) hZ (own_hw hw 203) (own_hw hw 46) (by decide) (by decide)) q92a q92b q92c (g := (mkF m 458 #[oi p0, oi p1, oi p2, oi p3, oi 1, oi u5, oi u6, oi u7, oi u8, oR a1_1, oR a1_2, oR b4, oi u12, oi u13, oi u14, oi n15, oR w16, oR w17, oR b19, oR rp_65, oR r_65, oR b19] [(.int (0 : Int32)), (.ref b19)])) rfl hml.symm (Steps.refl _) (argsL := [(.int (0 : Int32))]) (rest := []) (lenOf pd_14 rfl) rfl (Nat.le_of_eq rfl) (hb hby at_458) (fun _ _ => ⟨rfl, eq87, (by decide : 28 + 0 ≤ _), (by decide : 218 + 0 ≤ _)⟩)
    dsimp only [Pt.U, Pt.locs, Pt.cells, Pt.slots] at X92 lq92 yq92 zq92 st92 hQ92
    subst lq92 yq92 zq92
    obtain ⟨rfl, Nq92, eq92⟩ := hQ92
    have N92 := Fr.app N87 Nq92
    refine ow (oT T92 m 463 #[oi p0, oi p1, oi p2, oi p3, oi 1, oi u5, oi u6, oi u7, oi u8, oR a1_1, oR a1_2, oR b4, oi u12, oi u13, oi u14, oi n15, oR w16, oR w17, oR b19, oR rp_65, oR r_65, oR b19] [(.ref a1_1)]) (fun _ k => st92.trans k) ?_
    have c96 : Exa Z h65 a1_1 oS0 := ((c62.keep K59).keep K65)
    obtain ⟨T95, X95, e95, st95⟩ := castY X92 hx hZ hown (own_hw hw 26) eq92 (Ins.self c96) (g := (mkF m 463 #[oi p0, oi p1, oi p2, oi p3, oi 1, oi u5, oi u6, oi u7, oi u8, oR a1_1, oR a1_2, oR b4, oi u12, oi u13, oi u14, oi n15, oR w16, oR w17, oR b19, oR rp_65, oR r_65, oR b19] [(.ref a1_1)])) rfl rfl (hb hby at_463)
    refine ow (oT T95 m 466 #[oi p0, oi p1, oi p2, oi p3, oi 1, oi u5, oi u6, oi u7, oi u8, oR a1_1, oR a1_2, oR b4, oi u12, oi u13, oi u14, oi n15, oR w16, oR w17, oR b19, oR rp_65, oR r_65, oR b19] [(.ref a1_1)]) (st95) ?_
    obtain ⟨T97, h97, X97, e97, E97, A97, D97, -, st97⟩ := newO X95 hx hZ hown (own_hw hw 26) (own_hw hw 10) (own_hw hw 2) e95 (g := (mkF m 466 #[oi p0, oi p1, oi p2, oi p3, oi 1, oi u5, oi u6, oi u7, oi u8, oR a1_1, oR a1_2, oR b4, oi u12, oi u13, oi u14, oi n15, oR w16, oR w17, oR b19, oR rp_65, oR r_65, oR b19] [(.ref a1_1)])) rfl (hb hby at_466) (by decide) (by decide)
    obtain ⟨b97, g97⟩ : ∃ z, z = h65.size := ⟨_, rfl⟩
    rw [← g97] at A97 D97 st97
    have sz97 : h65.size ≤ h97.size := E97.1
    have lt97 : @LT.lt Nat _ b97 h97.size := A97.lt
    have f98 : Fld Z h97 b97 oS0 "value" "[B" .null := D97 (Or.inr (own_hw hw 23)) (ty := (.array .byte)) (by decide)
    have f99 : Fld Z h97 b97 oS0 "coder" "B" (.int (0 : Int32)) := D97 (Or.inr (own_hw hw 25)) (ty := .byte) (by decide)
    refine ow (oT T97 m 469 #[oi p0, oi p1, oi p2, oi p3, oi 1, oi u5, oi u6, oi u7, oi u8, oR a1_1, oR a1_2, oR b4, oi u12, oi u13, oi u14, oi n15, oR w16, oR w17, oR b19, oR rp_65, oR r_65, oR b19] [(.ref b97), (.ref a1_1)]) (st97) ?_
    refine ow (oT T97 m 470 #[oi p0, oi p1, oi p2, oi p3, oi 1, oi u5, oi u6, oi u7, oi u8, oR a1_1, oR a1_2, oR b4, oi u12, oi u13, oi u14, oi n15, oR w16, oR w17, oR b19, oR rp_65, oR r_65, oR b19] [(.ref b97), (.ref b97), (.ref a1_1)]) (fun _ k => XS.dup X97.here hx rfl (hb hby at_469) rfl rfl k) ?_
    refine ow (oT T97 m 471 #[oi p0, oi p1, oi p2, oi p3, oi 1, oi u5, oi u6, oi u7, oi u8, oR a1_1, oR a1_2, oR b4, oi u12, oi u13, oi u14, oi n15, oR w16, oR w17, oR b19, oR rp_65, oR r_65, oR b19] [(.int (1 : Int32)), (.ref b97), (.ref b97), (.ref a1_1)]) (fun _ k => XS.iconst X97.here hx rfl (hb hby at_470) k) ?_
    obtain ⟨T100, h100, k100, X100, e100, E100, A100, st100⟩ := newP X97 hx hZ (own_hw hw 27) e97 (g := (mkF m 471 #[oi p0, oi p1, oi p2, oi p3, oi 1, oi u5, oi u6, oi u7, oi u8, oR a1_1, oR a1_2, oR b4, oi u12, oi u13, oi u14, oi n15, oR w16, oR w17, oR b19, oR rp_65, oR r_65, oR b19] [(.int (1 : Int32)), (.ref b97), (.ref b97), (.ref a1_1)])) rfl (hb hby at_471) rfl (by decide) (cap := 1) (by decide) (by decide) (by decide) (by decide)
    obtain ⟨b100, g100⟩ : ∃ z, z = h97.size := ⟨_, rfl⟩
    rw [← g100] at A100 st100
    have sz100 : h97.size ≤ h100.size := E100.1
    have lt100 : @LT.lt Nat _ b100 h100.size := A100.lt
    have v100 : Arv Z h100 b100 k100 .char (1 : Int32) [(.int (0 : Int32))] (.int (0 : Int32)) := (Arv.new A100 (by decide)).pad (pad_rep [] (.int (0 : Int32)) 1)
    refine ow (oT T100 m 473 #[oi p0, oi p1, oi p2, oi p3, oi 1, oi u5, oi u6, oi u7, oi u8, oR a1_1, oR a1_2, oR b4, oi u12, oi u13, oi u14, oi n15, oR w16, oR w17, oR b19, oR rp_65, oR r_65, oR b19] [(.ref b100), (.ref b97), (.ref b97), (.ref a1_1)]) (st100) ?_
    refine ow (oT T100 m 474 #[oi p0, oi p1, oi p2, oi p3, oi 1, oi u5, oi u6, oi u7, oi u8, oR a1_1, oR a1_2, oR b4, oi u12, oi u13, oi u14, oi n15, oR w16, oR w17, oR b19, oR rp_65, oR r_65, oR b19] [(.ref b100), (.ref b100), (.ref b97), (.ref b97), (.ref a1_1)]) (fun _ k => XS.dup X100.here hx rfl (hb hby at_473) rfl rfl k) ?_
    refine ow (oT T100 m 475 #[oi p0, oi p1, oi p2, oi p3, oi 1, oi u5, oi u6, oi u7, oi u8, oR a1_1, oR a1_2, oR b4, oi u12, oi u13, oi u14, oi n15, oR w16, oR w17, oR b19, oR rp_65, oR r_65, oR b19] [(.int (0 : Int32)), (.ref b100), (.ref b100), (.ref b97), (.ref b97), (.ref a1_1)]) (fun _ k => XS.iconst X100.here hx rfl (hb hby at_474) k) ?_
    refine ow (oT T100 m 477 #[oi p0, oi p1, oi p2, oi p3, oi 1, oi u5, oi u6, oi u7, oi u8, oR a1_1, oR a1_2, oR b4, oi u12, oi u13, oi u14, oi n15, oR w16, oR w17, oR b19, oR rp_65, oR r_65, oR b19] [(.int u5), (.int (0 : Int32)), (.ref b100), (.ref b100), (.ref b97), (.ref b97), (.ref a1_1)]) (fun _ k => XS.iload X100.here hx rfl (hb hby at_475) rfl k) ?_
    obtain ⟨cl101, Ar101, qc101, S101, M101, H101, G101⟩ := id v100
    have hin101 : ¬ ((0 : Int32) < 0 ∨ cl101.slots.size ≤ ((0 : Int32)).toNatClampNeg) := (inb_of S101 ⟨by decide, by decide⟩)
    obtain ⟨T101, h101, X101, e101, W101, st101⟩ := stC X100 hx hZ e100 Ar101 (j := (0 : Int32)) hin101 (g := (mkF m 477 #[oi p0, oi p1, oi p2, oi p3, oi 1, oi u5, oi u6, oi u7, oi u8, oR a1_1, oR a1_2, oR b4, oi u12, oi u13, oi u14, oi n15, oR w16, oR w17, oR b19, oR rp_65, oR r_65, oR b19] [(.int u5), (.int (0 : Int32)), (.ref b100), (.ref b100), (.ref b97), (.ref b97), (.ref a1_1)])) rfl rfl (hb hby at_477)
    have sz101 : h101.size = h100.size := W101.size
    have N101 := Fr.snoc X101 N92 (by omega)
    have v101 : Arv Z h101 b100 k100 .char (1 : Int32) [(.int (nar .char u5))] (.int (0 : Int32)) := Arv.set Ar101 qc101 S101 M101 H101 G101 (fits_nar_char _) W101 0 rfl (Nat.le_of_ble_eq_true rfl)
    refine ow (oT T101 m 478 #[oi p0, oi p1, oi p2, oi p3, oi 1, oi u5, oi u6, oi u7, oi u8, oR a1_1, oR a1_2, oR b4, oi u12, oi u13, oi u14, oi n15, oR w16, oR w17, oR b19, oR rp_65, oR r_65, oR b19] [(.ref b100), (.ref b97), (.ref b97), (.ref a1_1)]) (st101) ?_
    have v102 : Arv Z h101 b100 k100 .char (1 : Int32) [(.int u5)] (.int (0 : Int32)) := by have q_ := v101; rw [own_lat_ch hl_u5] at q_; exact q_
    have c104 : Exa Z h101 b97 oS0 := ((A97.ext E100).wr W101)
    have c105 : Fld Z h101 b97 oS0 "value" "[B" .null := ((f98.ext E100).other W101 (Or.inl (own_ne (by omega))))
    have c106 : Fld Z h101 b97 oS0 "coder" "B" (.int (0 : Int32)) := ((f99.ext E100).other W101 (Or.inl (own_ne (by omega))))
    have c107 : Sta Z h101 oS0 oS4 "Z" (.int zc) := (((c77.ext E97).ext E100).wr W101)
    obtain ⟨_, _, ⟨T103, LC103, kC103, nC103⟩, -, X103, ⟨Lc103, hQ103, lq103, yq103, zq103⟩, st103⟩ := X101.specialBack hx (y := oM0) rfl hown (mvT hZ (own_hw hw 28)) (mvT hZ (own_hw hw 29)) (mvT hZ (own_hw hw 30)) (by decide) (backOf (W := 2) (rsc_1 l Z a0 hw [] b97 b100 k100 zc u5 h101 n0 (by omega) c104 c105 c106 v102 c107 (by assumption) hl_u5 (by omega) (own_ne (by omega))) hZ (own_hw hw 30) (own_hw hw 2) (by decide) (by decide)) (g := (mkF m 478 #[oi p0, oi p1, oi p2, oi p3, oi 1, oi u5, oi u6, oi u7, oi u8, oR a1_1, oR a1_2, oR b4, oi u12, oi u13, oi u14, oi n15, oR w16, oR w17, oR b19, oR rp_65, oR r_65, oR b19] [(.ref b100), (.ref b97), (.ref b97), (.ref a1_1)])) rfl hml.symm (Steps.refl _) (a := b97) (argsL := [(.ref b100)]) (rest := [(.ref b97), (.ref a1_1)]) (lenOf pd_20 rfl) rfl (Nat.le_of_eq rfl) (hb hby at_478) (fun _ _ => ⟨rfl, e101, (by decide : 30 + 1 ≤ _), (by decide : 223 + 1 ≤ _)⟩)
    dsimp only [Pt.U, Pt.locs, Pt.cells, Pt.slots] at X103 lq103 yq103 zq103 st103 hQ103
    subst lq103 yq103 zq103
    obtain ⟨h103, e103⟩ : ∃ z, T103.heap = z := ⟨_, rfl⟩
    rw [e103] at hQ103
    obtain ⟨r_103, kr_103, rfl, Nq103, K103, g103_0, g103_1, g103_2, g103_3, g103_4⟩ := hQ103
    have sz103 : h101.size ≤ h103.size := K103.1
    have N103 := Fr.app N101 Nq103
    have lt103_1 : @LT.lt Nat _ b97 h103.size := g103_0.lt
    have lt103_2 : @LT.lt Nat _ r_103 h103.size := g103_3.lt
    refine ow (oT T103 m 481 #[oi p0, oi p1, oi p2, oi p3, oi 1, oi u5, oi u6, oi u7, oi u8, oR a1_1, oR a1_2, oR b4, oi u12, oi u13, oi u14, oi n15, oR w16, oR w17, oR b19, oR rp_65, oR r_65, oR b19] [(.ref b97), (.ref a1_1)]) (fun _ k => st103.trans k) ?_
    have c109 : Sta Z h103 oS0 oS4 "Z" (.int zc) := (own_sta_keep c107 K103 (allS (P := fun x => ∀ c : Cell, h101[x]? = some c → c.vm.isStatics = false) (own_pl_exa c104) all0))
    have c110 : Exa Z h103 a1_1 oS0 := ((((c96.ext E97).ext E100).wr W101).keep K103)
    have c111 : Fld Z h103 a1_1 oS0 "value" "[B" (.ref r_1) := ((((((((fj18_5.ext E19).keep K23 (ninS (own_ne (by omega)) nin0)).keep K59 (ninS (own_ne (by omega)) nin0)).keep K65 nin0).ext E97).ext E100).other W101 (Or.inl (own_ne (by omega)))).keep K103 (ninS (own_ne (by omega)) nin0))
    have c112 : Fld Z h103 a1_1 oS0 "coder" "B" (.int (0 : Int32)) := ((((((((fj18_6.ext E19).keep K23 (ninS (own_ne (by omega)) nin0)).keep K59 (ninS (own_ne (by omega)) nin0)).keep K65 nin0).ext E97).ext E100).other W101 (Or.inl (own_ne (by omega)))).keep K103 (ninS (own_ne (by omega)) nin0))
    have c113 : Arv Z h103 r_1 kr_1 .byte (1 : Int32) [(.int (own_by u5))] (.int (0 : Int32)) := ((((((((fj18_7.ext E19).keep K23 (ninS (own_ne (by omega)) nin0)).keep K59 (ninS (own_ne (by omega)) nin0)).keep K65 nin0).ext E97).ext E100).other W101 (own_ne (by omega))).keep K103 (ninS (own_ne (by omega)) nin0))
    obtain ⟨cq108, kq108, q108a, q108b, q108c⟩ := isOf hZ e103 c110
    obtain ⟨_, _, ⟨T108, LC108, kC108, nC108⟩, -, X108, ⟨Lc108, hQ108, lq108, yq108, zq108⟩, st108⟩ := X103.virtualBack hx (y := oM1) (z := oM1) hown (mvT hZ (own_hw hw 146)) (mvT hZ (own_hw hw 147)) (notFace_of_selects (args := #[]) (mvT hZ (own_hw hw 149))) (mvT hZ (own_hw hw 149)) (mvT hZ (own_hw hw 148)) (by decide) (backOf (W := 0) (rse_gen l Z a0 hw [] a1_1 b97 zc r_1 kr_1 (1 : Int32) [(.int (own_by u5))] r_103 kr_103 h103 n0 (by omega) c109 (by assumption) (own_ne (by omega)) c110 c111 c112 g103_0 g103_1 g103_2 c113 g103_3 (Or.inr (Or.inl ⟨_, rfl, rfl⟩))) hZ (own_hw hw 150) (own_hw hw 2) (by decide) (by decide)) q108a q108c (g := (mkF m 481 #[oi p0, oi p1, oi p2, oi p3, oi 1, oi u5, oi u6, oi u7, oi u8, oR a1_1, oR a1_2, oR b4, oi u12, oi u13, oi u14, oi n15, oR w16, oR w17, oR b19, oR rp_65, oR r_65, oR b19] [(.ref b97), (.ref a1_1)])) rfl hml.symm (Steps.refl _) (argsL := [(.ref b97)]) (rest := []) (lenOf pd_24 rfl) rfl (Nat.le_of_eq rfl) (hb hby at_481) (fun _ _ => ⟨rfl, e103, (by decide : 31 + 0 ≤ _), (by decide : 224 + 0 ≤ _)⟩)
    dsimp only [Pt.U, Pt.locs, Pt.cells, Pt.slots] at X108 lq108 yq108 zq108 st108 hQ108
    subst lq108 yq108 zq108
    obtain ⟨rfl, Nq108, eq108⟩ := hQ108
    have N108 := Fr.app N103 Nq108
    refine ow (oT T108 m 484 #[oi p0, oi p1, oi p2, oi p3, oi 1, oi u5, oi u6, oi u7, oi u8, oR a1_1, oR a1_2, oR b4, oi u12, oi u13, oi u14, oi n15, oR w16, oR w17, oR b19, oR rp_65, oR r_65, oR b19] [(.int (1 : Int32))]) (fun _ k => st108.trans k) ?_
    have hc114 : ¬ ((1 : Int32) = (0 : Int32)) := by decide
    refine ow (oT T108 m 489 #[oi p0, oi p1, oi p2, oi p3, oi 1, oi u5, oi u6, oi u7, oi u8, oR a1_1, oR a1_2, oR b4, oi u12, oi u13, oi u14, oi n15, oR w16, oR w17, oR b19, oR rp_65, oR r_65, oR b19] []) (fun _ k => XS.ifYes X108.here hx rfl (pc0 := 484) (pc' := 489) rfl (hb hby at_484) rfl ((if0 _ _).trans (feq hc114).2) (by decide) (by decide) k) ?_
    refine ow (oT T108 m 491 #[oi p0, oi p1, oi p2, oi p3, oi 1, oi u5, oi u6, oi u7, oi u8, oR a1_1, oR a1_2, oR b4, oi u12, oi u13, oi u14, oi n15, oR w16, oR w17, oR b19, oR rp_65, oR r_65, oR b19] [(.int (1 : Int32))]) (fun _ k => XS.iload X108.here hx rfl (hb hby at_489) rfl k) ?_
    refine ow (oT T108 m 492 #[oi p0, oi p1, oi p2, oi p3, oi 1, oi u5, oi u6, oi u7, oi u8, oR a1_1, oR a1_2, oR b4, oi u12, oi u13, oi u14, oi n15, oR w16, oR w17, oR b19, oR rp_65, oR r_65, oR b19] [(.int (1 : Int32)), (.int (1 : Int32))]) (fun _ k => XS.iconst X108.here hx rfl (hb hby at_491) k) ?_
    have hc115 : ¬ ((1 : Int32) < (1 : Int32)) := by decide
    refine ow (oT T108 m 529 #[oi p0, oi p1, oi p2, oi p3, oi 1, oi u5, oi u6, oi u7, oi u8, oR a1_1, oR a1_2, oR b4, oi u12, oi u13, oi u14, oi n15, oR w16, oR w17, oR b19, oR rp_65, oR r_65, oR b19] []) (fun _ k => XS.icmpYes X108.here hx rfl (pc0 := 492) (pc' := 529) rfl (hb hby at_492) rfl (flt hc115).2.2.2 (by decide) (by decide) k) ?_
    refine ow (oT T108 m 531 #[oi p0, oi p1, oi p2, oi p3, oi 1, oi u5, oi u6, oi u7, oi u8, oR a1_1, oR a1_2, oR b4, oi u12, oi u13, oi u14, oi n15, oR w16, oR w17, oR b19, oR rp_65, oR r_65, oR b19] [(.int (1 : Int32))]) (fun _ k => XS.iload X108.here hx rfl (hb hby at_529) rfl k) ?_
    refine ow (oT T108 m 532 #[oi p0, oi p1, oi p2, oi p3, oi 1, oi u5, oi u6, oi u7, oi u8, oR a1_1, oR a1_2, oR b4, oi u12, oi u13, oi u14, oi n15, oR w16, oR w17, oR b19, oR rp_65, oR r_65, oR b19] [(.int (2 : Int32)), (.int (1 : Int32))]) (fun _ k => XS.iconst X108.here hx rfl (hb hby at_531) k) ?_
    have hc116 : ¬ ((2 : Int32) < (1 : Int32)) := by decide
    refine ow (oT T108 m 574 #[oi p0, oi p1, oi p2, oi p3, oi 1, oi u5, oi u6, oi u7, oi u8, oR a1_1, oR a1_2, oR b4, oi u12, oi u13, oi u14, oi n15, oR w16, oR w17, oR b19, oR rp_65, oR r_65, oR b19] []) (fun _ k => XS.icmpYes X108.here hx rfl (pc0 := 532) (pc' := 574) rfl (hb hby at_532) rfl (flt hc116).2.2.2 (by decide) (by decide) k) ?_
    refine ow (oT T108 m 575 #[oi p0, oi p1, oi p2, oi p3, oi 1, oi u5, oi u6, oi u7, oi u8, oR a1_1, oR a1_2, oR b4, oi u12, oi u13, oi u14, oi n15, oR w16, oR w17, oR b19, oR rp_65, oR r_65, oR b19] [(.int (1 : Int32))]) (fun _ k => XS.iconst X108.here hx rfl (hb hby at_574) k) ?_
    obtain ⟨fs, hr, hrun, hended, hR1, hR2, hR3, hR4⟩ := X108.leaveW hSj18 (by rw [eq108]; omega) (v := some (.int (1 : Int32))) (fun h => by rw [Bd.returns] at h; cases h)
    refine ⟨_, _, ?_, hP _ _ hrun hended ⟨_, _, rfl, ?_, hR1, hR2, hR3, hR4.mono (by decide) (by decide)⟩⟩
    · exact retN X108 hx (t := .boolean) Bd.returns (by simp) (hb hby at_575) hr
    ·
     show Qrm0 Z p0 p1 p2 p3 de kde em zc h0 n0 _ T108.heap _
     rw [eq108]
     exact ⟨rfl, N108, trivial⟩
   ·
    have KA118 : Keep hj18 h23 [] := (((Keep.refl hj18 []).ext E19).trans K23 (allS (P := fun x => x ∈ [] ∨ hj18.size ≤ x) (Or.inr (by omega)) all0))
    have AS118 := CHr.keep (EL := own_EL) KA118 all0 Aj18.1
    have AA119 := Aj18.trans AS118
    have J489_120 : ∀ (Tj120 : State) (lj120 : List Loc) (hj120 : Heap) (ea : Addr) (ke : ClassId) (rp : Addr) (er : Addr) (vj120 : Vm) (kj120 : Nat) (Xj120 : Stand p l e room_1 (s.setVm vj120) m #[(.int p0), (.int p1), (.int p2), (.int p3)] below meth c Tj120 lj120 44 330) (ej120 : Tj120.heap = hj120) (Nj120 : Fr n0 lj120) (hSj120 : s.Since vj120 kj120) (hkj120 : kj120 ≤ hj120.size) (hZj120 : Z.Warmed39 (s.setVm vj120).vm) (hoj120 : (s.setVm vj120).vm.findClass oS14 = some m.cls) (Aj120 : CHr Z own_EL s.vm h0 vj120 hj120)  (szj120 : h23.size ≤ hj120.size) (fj120_0 : Exa Z hj120 a1_1 oS0) (fj120_1 : Fld Z hj120 a1_1 oS0 "value" "[B" (.ref r_1)) (fj120_2 : Fld Z hj120 a1_1 oS0 "coder" "B" (.int (0 : Int32))) (fj120_3 : Arv Z hj120 r_1 kr_1 .byte (1 : Int32) [(.int (own_by u5))] (.int (0 : Int32))) (fj120_4 : Exa Z hj120 a1_2 oS0) (fj120_5 : Fld Z hj120 a1_2 oS0 "value" "[B" (.ref r_2)) (fj120_6 : Fld Z hj120 a1_2 oS0 "coder" "B" (.int (0 : Int32))) (fj120_7 : Arv Z hj120 r_2 kr_2 .byte (1 : Int32) [(.int (own_by u6))] (.int (0 : Int32))) (fj120_8 : Exa Z hj120 b4 oS0) (fj120_9 : Fld Z hj120 b4 oS0 "value" "[B" (.ref r_11)) (fj120_10 : Fld Z hj120 b4 oS0 "coder" "B" (.int (0 : Int32))) (fj120_11 : Arv Z hj120 r_11 kr_11 .byte (2 : Int32) [(.int (own_by u7)), (.int (own_by u8))] (.int (0 : Int32))) (fj120_12 : Sta Z hj120 oS0 oS4 "Z" (.int zc)) (fj120_13 : Exa Z hj120 b19 oS1) (fj120_14 : Fld Z hj120 b19 oS1 "elementData" oS3 (.ref ea)) (fj120_15 : Fld Z hj120 b19 oS1 "size" "I" (.int (2 : Int32))) (fj120_16 : Arv Z hj120 ea ke (.object oS2) (10 : Int32) [(.ref a1_1), (.ref a1_2), .null, .null, .null, .null, .null, .null, .null, .null] .null), own_Go p.tables e below P (Tj120.setTop (mkF m 489 #[oi p0, oi p1, oi p2, oi p3, oi 2, oi u5, oi u6, oi u7, oi u8, oR a1_1, oR a1_2, oR b4, oi u12, oi u13, oi u14, oi n15, oR w16, oR w17, oR b19, oR rp, oR er, oR b19] [])) := by
     intro Tj120 lj120 hj120 ea ke rp er vj120 kj120 Xj120 ej120 Nj120 hSj120 hkj120 hZ hown Aj120 szj120 fj120_0 fj120_1 fj120_2 fj120_3 fj120_4 fj120_5 fj120_6 fj120_7 fj120_8 fj120_9 fj120_10 fj120_11 fj120_12 fj120_13 fj120_14 fj120_15 fj120_16
     have ltj120_0 : @LT.lt Nat _ a1_1 hj120.size := fj120_0.lt
     have ltj120_3 : @LT.lt Nat _ r_1 hj120.size := fj120_3.lt
     have ltj120_4 : @LT.lt Nat _ a1_2 hj120.size := fj120_4.lt
     have ltj120_7 : @LT.lt Nat _ r_2 hj120.size := fj120_7.lt
     have ltj120_8 : @LT.lt Nat _ b4 hj120.size := fj120_8.lt
     have ltj120_11 : @LT.lt Nat _ r_11 hj120.size := fj120_11.lt
     have ltj120_13 : @LT.lt Nat _ b19 hj120.size := fj120_13.lt
     have ltj120_16 : @LT.lt Nat _ ea hj120.size := fj120_16.lt
     refine ow (oT Tj120 m 491 #[oi p0, oi p1, oi p2, oi p3, oi 2, oi u5, oi u6, oi u7, oi u8, oR a1_1, oR a1_2, oR b4, oi u12, oi u13, oi u14, oi n15, oR w16, oR w17, oR b19, oR rp, oR er, oR b19] [(.int (2 : Int32))]) (fun _ k => XS.iload Xj120.here hx rfl (hb hby at_489) rfl k) ?_
     refine ow (oT Tj120 m 492 #[oi p0, oi p1, oi p2, oi p3, oi 2, oi u5, oi u6, oi u7, oi u8, oR a1_1, oR a1_2, oR b4, oi u12, oi u13, oi u14, oi n15, oR w16, oR w17, oR b19, oR rp, oR er, oR b19] [(.int (1 : Int32)), (.int (2 : Int32))]) (fun _ k => XS.iconst Xj120.here hx rfl (hb hby at_491) k) ?_
     have hc121 : (1 : Int32) < (2 : Int32) := by decide
     refine ow (oT Tj120 m 495 #[oi p0, oi p1, oi p2, oi p3, oi 2, oi u5, oi u6, oi u7, oi u8, oR a1_1, oR a1_2, oR b4, oi u12, oi u13, oi u14, oi n15, oR w16, oR w17, oR b19, oR rp, oR er, oR b19] []) (fun _ k => XS.icmpNo Xj120.here hx rfl (hb hby at_492) rfl (tlt hc121).2.2.2 k) ?_
     refine ow (oT Tj120 m 497 #[oi p0, oi p1, oi p2, oi p3, oi 2, oi u5, oi u6, oi u7, oi u8, oR a1_1, oR a1_2, oR b4, oi u12, oi u13, oi u14, oi n15, oR w16, oR w17, oR b19, oR rp, oR er, oR b19] [(.ref b19)]) (fun _ k => XS.aload Xj120.here hx rfl (hb hby at_495) rfl rfl k) ?_
     refine ow (oT Tj120 m 498 #[oi p0, oi p1, oi p2, oi p3, oi 2, oi u5, oi u6, oi u7, oi u8, oR a1_1, oR a1_2, oR b4, oi u12, oi u13, oi u14, oi n15, oR w16, oR w17, oR b19, oR rp, oR er, oR b19] [(.int (1 : Int32)), (.ref b19)]) (fun _ k => XS.iconst Xj120.here hx rfl (hb hby at_497) k) ?_
     obtain ⟨cq122, kq122, q122a, q122b, q122c⟩ := isOf hZ ej120 fj120_13
     obtain ⟨_, _, ⟨T122, LC122, kC122, nC122⟩, -, X122, ⟨Lc122, hQ122, lq122, yq122, zq122⟩, st122⟩ := Xj120.interfaceBack hx (xi := oM12) (y := oM5) hown (mvT hZ (own_hw hw 138)) (mvT hZ (own_hw hw 139)) (mvT hZ (own_hw hw 140)) (mvT hZ (own_hw hw 199)) (mvT hZ (own_hw hw 200)) (mvT hZ (own_hw hw 201)) (mvT hZ (own_hw hw 202)) (mvT hZ (own_hw hw 163)) (by decide) (backOf (W := 0) (rge_12 l Z a0 hw [] b19 ea ke (.ref a1_1) (.ref a1_2) .null hj120 n0 (by omega) fj120_13 fj120_15 fj120_14 fj120_16 rfl) hZ (own_hw hw 203) (own_hw hw 46) (by decide) (by decide)) q122a q122b q122c (g := (mkF m 498 #[oi p0, oi p1, oi p2, oi p3, oi 2, oi u5, oi u6, oi u7, oi u8, oR a1_1, oR a1_2, oR b4, oi u12, oi u13, oi u14, oi n15, oR w16, oR w17, oR b19, oR rp, oR er, oR b19] [(.int (1 : Int32)), (.ref b19)])) rfl hml.symm (Steps.refl _) (argsL := [(.int (1 : Int32))]) (rest := []) (lenOf pd_14 rfl) rfl (Nat.le_of_eq rfl) (hb hby at_498) (fun _ _ => ⟨rfl, ej120, (by decide : 44 + 0 ≤ _), (by decide : 330 + 0 ≤ _)⟩)
     dsimp only [Pt.U, Pt.locs, Pt.cells, Pt.slots] at X122 lq122 yq122 zq122 st122 hQ122
     subst lq122 yq122 zq122
     obtain ⟨rfl, Nq122, eq122⟩ := hQ122
     have N122 := Fr.app Nj120 Nq122
     refine ow (oT T122 m 503 #[oi p0, oi p1, oi p2, oi p3, oi 2, oi u5, oi u6, oi u7, oi u8, oR a1_1, oR a1_2, oR b4, oi u12, oi u13, oi u14, oi n15, oR w16, oR w17, oR b19, oR rp, oR er, oR b19] [(.ref a1_2)]) (fun _ k => st122.trans k) ?_
     obtain ⟨T123, X123, e123, st123⟩ := castY X122 hx hZ hown (own_hw hw 26) eq122 (Ins.self fj120_4) (g := (mkF m 503 #[oi p0, oi p1, oi p2, oi p3, oi 2, oi u5, oi u6, oi u7, oi u8, oR a1_1, oR a1_2, oR b4, oi u12, oi u13, oi u14, oi n15, oR w16, oR w17, oR b19, oR rp, oR er, oR b19] [(.ref a1_2)])) rfl rfl (hb hby at_503)
     refine ow (oT T123 m 506 #[oi p0, oi p1, oi p2, oi p3, oi 2, oi u5, oi u6, oi u7, oi u8, oR a1_1, oR a1_2, oR b4, oi u12, oi u13, oi u14, oi n15, oR w16, oR w17, oR b19, oR rp, oR er, oR b19] [(.ref a1_2)]) (st123) ?_
     obtain ⟨T124, h124, X124, e124, E124, A124, D124, -, st124⟩ := newO X123 hx hZ hown (own_hw hw 26) (own_hw hw 10) (own_hw hw 2) e123 (g := (mkF m 506 #[oi p0, oi p1, oi p2, oi p3, oi 2, oi u5, oi u6, oi u7, oi u8, oR a1_1, oR a1_2, oR b4, oi u12, oi u13, oi u14, oi n15, oR w16, oR w17, oR b19, oR rp, oR er, oR b19] [(.ref a1_2)])) rfl (hb hby at_506) (by decide) (by decide)
     obtain ⟨b124, g124⟩ : ∃ z, z = hj120.size := ⟨_, rfl⟩
     rw [← g124] at A124 D124 st124
     have sz124 : hj120.size ≤ h124.size := E124.1
     have lt124 : @LT.lt Nat _ b124 h124.size := A124.lt
     have f125 : Fld Z h124 b124 oS0 "value" "[B" .null := D124 (Or.inr (own_hw hw 23)) (ty := (.array .byte)) (by decide)
     have f126 : Fld Z h124 b124 oS0 "coder" "B" (.int (0 : Int32)) := D124 (Or.inr (own_hw hw 25)) (ty := .byte) (by decide)
     refine ow (oT T124 m 509 #[oi p0, oi p1, oi p2, oi p3, oi 2, oi u5, oi u6, oi u7, oi u8, oR a1_1, oR a1_2, oR b4, oi u12, oi u13, oi u14, oi n15, oR w16, oR w17, oR b19, oR rp, oR er, oR b19] [(.ref b124), (.ref a1_2)]) (st124) ?_
     refine ow (oT T124 m 510 #[oi p0, oi p1, oi p2, oi p3, oi 2, oi u5, oi u6, oi u7, oi u8, oR a1_1, oR a1_2, oR b4, oi u12, oi u13, oi u14, oi n15, oR w16, oR w17, oR b19, oR rp, oR er, oR b19] [(.ref b124), (.ref b124), (.ref a1_2)]) (fun _ k => XS.dup X124.here hx rfl (hb hby at_509) rfl rfl k) ?_
     refine ow (oT T124 m 511 #[oi p0, oi p1, oi p2, oi p3, oi 2, oi u5, oi u6, oi u7, oi u8, oR a1_1, oR a1_2, oR b4, oi u12, oi u13, oi u14, oi n15, oR w16, oR w17, oR b19, oR rp, oR er, oR b19] [(.int (1 : Int32)), (.ref b124), (.ref b124), (.ref a1_2)]) (fun _ k => XS.iconst X124.here hx rfl (hb hby at_510) k) ?_
     obtain ⟨T127, h127, k127, X127, e127, E127, A127, st127⟩ := newP X124 hx hZ (own_hw hw 27) e124 (g := (mkF m 511 #[oi p0, oi p1, oi p2, oi p3, oi 2, oi u5, oi u6, oi u7, oi u8, oR a1_1, oR a1_2, oR b4, oi u12, oi u13, oi u14, oi n15, oR w16, oR w17, oR b19, oR rp, oR er, oR b19] [(.int (1 : Int32)), (.ref b124), (.ref b124), (.ref a1_2)])) rfl (hb hby at_511) rfl (by decide) (cap := 1) (by decide) (by decide) (by decide) (by decide)
     obtain ⟨b127, g127⟩ : ∃ z, z = h124.size := ⟨_, rfl⟩
     rw [← g127] at A127 st127
     have sz127 : h124.size ≤ h127.size := E127.1
     have lt127 : @LT.lt Nat _ b127 h127.size := A127.lt
     have v127 : Arv Z h127 b127 k127 .char (1 : Int32) [(.int (0 : Int32))] (.int (0 : Int32)) := (Arv.new A127 (by decide)).pad (pad_rep [] (.int (0 : Int32)) 1)
     refine ow (oT T127 m 513 #[oi p0, oi p1, oi p2, oi p3, oi 2, oi u5, oi u6, oi u7, oi u8, oR a1_1, oR a1_2, oR b4, oi u12, oi u13, oi u14, oi n15, oR w16, oR w17, oR b19, oR rp, oR er, oR b19] [(.ref b127), (.ref b124), (.ref b124), (.ref a1_2)]) (st127) ?_
     refine ow (oT T127 m 514 #[oi p0, oi p1, oi p2, oi p3, oi 2, oi u5, oi u6, oi u7, oi u8, oR a1_1, oR a1_2, oR b4, oi u12, oi u13, oi u14, oi n15, oR w16, oR w17, oR b19, oR rp, oR er, oR b19] [(.ref b127), (.ref b127), (.ref b124), (.ref b124), (.ref a1_2)]) (fun _ k => XS.dup X127.here hx rfl (hb hby at_513) rfl rfl k) ?_
     refine ow (oT T127 m 515 #[oi p0, oi p1, oi p2, oi p3, oi 2, oi u5, oi u6, oi u7, oi u8, oR a1_1, oR a1_2, oR b4, oi u12, oi u13, oi u14, oi n15, oR w16, oR w17, oR b19, oR rp, oR er, oR b19] [(.int (0 : Int32)), (.ref b127), (.ref b127), (.ref b124), (.ref b124), (.ref a1_2)]) (fun _ k => XS.iconst X127.here hx rfl (hb hby at_514) k) ?_
     refine ow (oT T127 m 517 #[oi p0, oi p1, oi p2, oi p3, oi 2, oi u5, oi u6, oi u7, oi u8, oR a1_1, oR a1_2, oR b4, oi u12, oi u13, oi u14, oi n15, oR w16, oR w17, oR b19, oR rp, oR er, oR b19] [(.int u6), (.int (0 : Int32)), (.ref b127), (.ref b127), (.ref b124), (.ref b124), (.ref a1_2)]) (fun _ k => XS.iload X127.here hx rfl (hb hby at_515) rfl k) ?_
     obtain ⟨cl128, Ar128, qc128, S128, M128, H128, G128⟩ := id v127
     have hin128 : ¬ ((0 : Int32) < 0 ∨ cl128.slots.size ≤ ((0 : Int32)).toNatClampNeg) := (inb_of S128 ⟨by decide, by decide⟩)
     obtain ⟨T128, h128, X128, e128, W128, st128⟩ := stC X127 hx hZ e127 Ar128 (j := (0 : Int32)) hin128 (g := (mkF m 517 #[oi p0, oi p1, oi p2, oi p3, oi 2, oi u5, oi u6, oi u7, oi u8, oR a1_1, oR a1_2, oR b4, oi u12, oi u13, oi u14, oi n15, oR w16, oR w17, oR b19, oR rp, oR er, oR b19] [(.int u6), (.int (0 : Int32)), (.ref b127), (.ref b127), (.ref b124), (.ref b124), (.ref a1_2)])) rfl rfl (hb hby at_517)
     have sz128 : h128.size = h127.size := W128.size
     have N128 := Fr.snoc X128 N122 (by omega)
     have v128 : Arv Z h128 b127 k127 .char (1 : Int32) [(.int (nar .char u6))] (.int (0 : Int32)) := Arv.set Ar128 qc128 S128 M128 H128 G128 (fits_nar_char _) W128 0 rfl (Nat.le_of_ble_eq_true rfl)
     refine ow (oT T128 m 518 #[oi p0, oi p1, oi p2, oi p3, oi 2, oi u5, oi u6, oi u7, oi u8, oR a1_1, oR a1_2, oR b4, oi u12, oi u13, oi u14, oi n15, oR w16, oR w17, oR b19, oR rp, oR er, oR b19] [(.ref b127), (.ref b124), (.ref b124), (.ref a1_2)]) (st128) ?_
     have v129 : Arv Z h128 b127 k127 .char (1 : Int32) [(.int u6)] (.int (0 : Int32)) := by have q_ := v128; rw [own_lat_ch hl_u6] at q_; exact q_
     have c131 : Exa Z h128 b124 oS0 := ((A124.ext E127).wr W128)
     have c132 : Fld Z h128 b124 oS0 "value" "[B" .null := ((f125.ext E127).other W128 (Or.inl (own_ne (by omega))))
     have c133 : Fld Z h128 b124 oS0 "coder" "B" (.int (0 : Int32)) := ((f126.ext E127).other W128 (Or.inl (own_ne (by omega))))
     have c134 : Sta Z h128 oS0 oS4 "Z" (.int zc) := (((fj120_12.ext E124).ext E127).wr W128)
     obtain ⟨_, _, ⟨T130, LC130, kC130, nC130⟩, -, X130, ⟨Lc130, hQ130, lq130, yq130, zq130⟩, st130⟩ := X128.specialBack hx (y := oM0) rfl hown (mvT hZ (own_hw hw 28)) (mvT hZ (own_hw hw 29)) (mvT hZ (own_hw hw 30)) (by decide) (backOf (W := 2) (rsc_1 l Z a0 hw [] b124 b127 k127 zc u6 h128 n0 (by omega) c131 c132 c133 v129 c134 (by assumption) hl_u6 (by omega) (own_ne (by omega))) hZ (own_hw hw 30) (own_hw hw 2) (by decide) (by decide)) (g := (mkF m 518 #[oi p0, oi p1, oi p2, oi p3, oi 2, oi u5, oi u6, oi u7, oi u8, oR a1_1, oR a1_2, oR b4, oi u12, oi u13, oi u14, oi n15, oR w16, oR w17, oR b19, oR rp, oR er, oR b19] [(.ref b127), (.ref b124), (.ref b124), (.ref a1_2)])) rfl hml.symm (Steps.refl _) (a := b124) (argsL := [(.ref b127)]) (rest := [(.ref b124), (.ref a1_2)]) (lenOf pd_20 rfl) rfl (Nat.le_of_eq rfl) (hb hby at_518) (fun _ _ => ⟨rfl, e128, (by decide : 46 + 1 ≤ _), (by decide : 335 + 1 ≤ _)⟩)
     dsimp only [Pt.U, Pt.locs, Pt.cells, Pt.slots] at X130 lq130 yq130 zq130 st130 hQ130
     subst lq130 yq130 zq130
     obtain ⟨h130, e130⟩ : ∃ z, T130.heap = z := ⟨_, rfl⟩
     rw [e130] at hQ130
     obtain ⟨r_130, kr_130, rfl, Nq130, K130, g130_0, g130_1, g130_2, g130_3, g130_4⟩ := hQ130
     have sz130 : h128.size ≤ h130.size := K130.1
     have N130 := Fr.app N128 Nq130
     have lt130_1 : @LT.lt Nat _ b124 h130.size := g130_0.lt
     have lt130_2 : @LT.lt Nat _ r_130 h130.size := g130_3.lt
     refine ow (oT T130 m 521 #[oi p0, oi p1, oi p2, oi p3, oi 2, oi u5, oi u6, oi u7, oi u8, oR a1_1, oR a1_2, oR b4, oi u12, oi u13, oi u14, oi n15, oR w16, oR w17, oR b19, oR rp, oR er, oR b19] [(.ref b124), (.ref a1_2)]) (fun _ k => st130.trans k) ?_
     have c136 : Sta Z h130 oS0 oS4 "Z" (.int zc) := (own_sta_keep c134 K130 (allS (P := fun x => ∀ c : Cell, h128[x]? = some c → c.vm.isStatics = false) (own_pl_exa c131) all0))
     have c137 : Exa Z h130 a1_2 oS0 := ((((fj120_4.ext E124).ext E127).wr W128).keep K130)
     have c138 : Fld Z h130 a1_2 oS0 "value" "[B" (.ref r_2) := ((((fj120_5.ext E124).ext E127).other W128 (Or.inl (own_ne (by omega)))).keep K130 (ninS (own_ne (by omega)) nin0))
     have c139 : Fld Z h130 a1_2 oS0 "coder" "B" (.int (0 : Int32)) := ((((fj120_6.ext E124).ext E127).other W128 (Or.inl (own_ne (by omega)))).keep K130 (ninS (own_ne (by omega)) nin0))
     have c140 : Arv Z h130 r_2 kr_2 .byte (1 : Int32) [(.int (own_by u6))] (.int (0 : Int32)) := ((((fj120_7.ext E124).ext E127).other W128 (own_ne (by omega))).keep K130 (ninS (own_ne (by omega)) nin0))
     obtain ⟨cq135, kq135, q135a, q135b, q135c⟩ := isOf hZ e130 c137
     obtain ⟨_, _, ⟨T135, LC135, kC135, nC135⟩, -, X135, ⟨Lc135, hQ135, lq135, yq135, zq135⟩, st135⟩ := X130.virtualBack hx (y := oM1) (z := oM1) hown (mvT hZ (own_hw hw 146)) (mvT hZ (own_hw hw 147)) (notFace_of_selects (args := #[]) (mvT hZ (own_hw hw 149))) (mvT hZ (own_hw hw 149)) (mvT hZ (own_hw hw 148)) (by decide) (backOf (W := 0) (rse_gen l Z a0 hw [] a1_2 b124 zc r_2 kr_2 (1 : Int32) [(.int (own_by u6))] r_130 kr_130 h130 n0 (by omega) c136 (by assumption) (own_ne (by omega)) c137 c138 c139 g130_0 g130_1 g130_2 c140 g130_3 (Or.inr (Or.inl ⟨_, rfl, rfl⟩))) hZ (own_hw hw 150) (own_hw hw 2) (by decide) (by decide)) q135a q135c (g := (mkF m 521 #[oi p0, oi p1, oi p2, oi p3, oi 2, oi u5, oi u6, oi u7, oi u8, oR a1_1, oR a1_2, oR b4, oi u12, oi u13, oi u14, oi n15, oR w16, oR w17, oR b19, oR rp, oR er, oR b19] [(.ref b124), (.ref a1_2)])) rfl hml.symm (Steps.refl _) (argsL := [(.ref b124)]) (rest := []) (lenOf pd_24 rfl) rfl (Nat.le_of_eq rfl) (hb hby at_521) (fun _ _ => ⟨rfl, e130, (by decide : 47 + 0 ≤ _), (by decide : 336 + 0 ≤ _)⟩)
     dsimp only [Pt.U, Pt.locs, Pt.cells, Pt.slots] at X135 lq135 yq135 zq135 st135 hQ135
     subst lq135 yq135 zq135
     obtain ⟨rfl, Nq135, eq135⟩ := hQ135
     have N135 := Fr.app N130 Nq135
     refine ow (oT T135 m 524 #[oi p0, oi p1, oi p2, oi p3, oi 2, oi u5, oi u6, oi u7, oi u8, oR a1_1, oR a1_2, oR b4, oi u12, oi u13, oi u14, oi n15, oR w16, oR w17, oR b19, oR rp, oR er, oR b19] [(.int (1 : Int32))]) (fun _ k => st135.trans k) ?_
     have hc141 : ¬ ((1 : Int32) = (0 : Int32)) := by decide
     refine ow (oT T135 m 529 #[oi p0, oi p1, oi p2, oi p3, oi 2, oi u5, oi u6, oi u7, oi u8, oR a1_1, oR a1_2, oR b4, oi u12, oi u13, oi u14, oi n15, oR w16, oR w17, oR b19, oR rp, oR er, oR b19] []) (fun _ k => XS.ifYes X135.here hx rfl (pc0 := 524) (pc' := 529) rfl (hb hby at_524) rfl ((if0 _ _).trans (feq hc141).2) (by decide) (by decide) k) ?_
     refine ow (oT T135 m 531 #[oi p0, oi p1, oi p2, oi p3, oi 2, oi u5, oi u6, oi u7, oi u8, oR a1_1, oR a1_2, oR b4, oi u12, oi u13, oi u14, oi n15, oR w16, oR w17, oR b19, oR rp, oR er, oR b19] [(.int (2 : Int32))]) (fun _ k => XS.iload X135.here hx rfl (hb hby at_529) rfl k) ?_
     refine ow (oT T135 m 532 #[oi p0, oi p1, oi p2, oi p3, oi 2, oi u5, oi u6, oi u7, oi u8, oR a1_1, oR a1_2, oR b4, oi u12, oi u13, oi u14, oi n15, oR w16, oR w17, oR b19, oR rp, oR er, oR b19] [(.int (2 : Int32)), (.int (2 : Int32))]) (fun _ k => XS.iconst X135.here hx rfl (hb hby at_531) k) ?_
     have hc142 : ¬ ((2 : Int32) < (2 : Int32)) := by decide
     refine ow (oT T135 m 574 #[oi p0, oi p1, oi p2, oi p3, oi 2, oi u5, oi u6, oi u7, oi u8, oR a1_1, oR a1_2, oR b4, oi u12, oi u13, oi u14, oi n15, oR w16, oR w17, oR b19, oR rp, oR er, oR b19] []) (fun _ k => XS.icmpYes X135.here hx rfl (pc0 := 532) (pc' := 574) rfl (hb hby at_532) rfl (flt hc142).2.2.2 (by decide) (by decide) k) ?_
     refine ow (oT T135 m 575 #[oi p0, oi p1, oi p2, oi p3, oi 2, oi u5, oi u6, oi u7, oi u8, oR a1_1, oR a1_2, oR b4, oi u12, oi u13, oi u14, oi n15, oR w16, oR w17, oR b19, oR rp, oR er, oR b19] [(.int (1 : Int32))]) (fun _ k => XS.iconst X135.here hx rfl (hb hby at_574) k) ?_
     obtain ⟨fs, hr, hrun, hended, hR1, hR2, hR3, hR4⟩ := X135.leaveW hSj120 (by rw [eq135]; omega) (v := some (.int (1 : Int32))) (fun h => by rw [Bd.returns] at h; cases h)
     refine ⟨_, _, ?_, hP _ _ hrun hended ⟨_, _, rfl, ?_, hR1, hR2, hR3, hR4.mono (by decide) (by decide)⟩⟩
     · exact retN X135 hx (t := .boolean) Bd.returns (by simp) (hb hby at_575) hr
     ·
      show Qrm0 Z p0 p1 p2 p3 de kde em zc h0 n0 _ T135.heap _
      rw [eq135]
      exact ⟨rfl, N135, trivial⟩
    have J450_144 : ∀ (Tj144 : State) (lj144 : List Loc) (hj144 : Heap) (ea : Addr) (ke : ClassId) (rp : Addr) (er : Addr) (vj144 : Vm) (kj144 : Nat) (Xj144 : Stand p l e room_1 (s.setVm vj144) m #[(.int p0), (.int p1), (.int p2), (.int p3)] below meth c Tj144 lj144 38 300) (ej144 : Tj144.heap = hj144) (Nj144 : Fr n0 lj144) (hSj144 : s.Since vj144 kj144) (hkj144 : kj144 ≤ hj144.size) (hZj144 : Z.Warmed39 (s.setVm vj144).vm) (hoj144 : (s.setVm vj144).vm.findClass oS14 = some m.cls) (Aj144 : CHr Z own_EL s.vm h0 vj144 hj144)  (szj144 : h23.size ≤ hj144.size) (fj144_0 : Exa Z hj144 a1_1 oS0) (fj144_1 : Fld Z hj144 a1_1 oS0 "value" "[B" (.ref r_1)) (fj144_2 : Fld Z hj144 a1_1 oS0 "coder" "B" (.int (0 : Int32))) (fj144_3 : Arv Z hj144 r_1 kr_1 .byte (1 : Int32) [(.int (own_by u5))] (.int (0 : Int32))) (fj144_4 : Exa Z hj144 a1_2 oS0) (fj144_5 : Fld Z hj144 a1_2 oS0 "value" "[B" (.ref r_2)) (fj144_6 : Fld Z hj144 a1_2 oS0 "coder" "B" (.int (0 : Int32))) (fj144_7 : Arv Z hj144 r_2 kr_2 .byte (1 : Int32) [(.int (own_by u6))] (.int (0 : Int32))) (fj144_8 : Exa Z hj144 b4 oS0) (fj144_9 : Fld Z hj144 b4 oS0 "value" "[B" (.ref r_11)) (fj144_10 : Fld Z hj144 b4 oS0 "coder" "B" (.int (0 : Int32))) (fj144_11 : Arv Z hj144 r_11 kr_11 .byte (2 : Int32) [(.int (own_by u7)), (.int (own_by u8))] (.int (0 : Int32))) (fj144_12 : Sta Z hj144 oS0 oS4 "Z" (.int zc)) (fj144_13 : Exa Z hj144 b19 oS1) (fj144_14 : Fld Z hj144 b19 oS1 "elementData" oS3 (.ref ea)) (fj144_15 : Fld Z hj144 b19 oS1 "size" "I" (.int (2 : Int32))) (fj144_16 : Arv Z hj144 ea ke (.object oS2) (10 : Int32) [(.ref a1_1), (.ref a1_2), .null, .null, .null, .null, .null, .null, .null, .null] .null), own_Go p.tables e below P (Tj144.setTop (mkF m 450 #[oi p0, oi p1, oi p2, oi p3, oi 2, oi u5, oi u6, oi u7, oi u8, oR a1_1, oR a1_2, oR b4, oi u12, oi u13, oi u14, oi n15, oR w16, oR w17, oR b19, oR rp, oR er, oR b19] [])) := by
     intro Tj144 lj144 hj144 ea ke rp er vj144 kj144 Xj144 ej144 Nj144 hSj144 hkj144 hZ hown Aj144 szj144 fj144_0 fj144_1 fj144_2 fj144_3 fj144_4 fj144_5 fj144_6 fj144_7 fj144_8 fj144_9 fj144_10 fj144_11 fj144_12 fj144_13 fj144_14 fj144_15 fj144_16
     have ltj144_0 : @LT.lt Nat _ a1_1 hj144.size := fj144_0.lt
     have ltj144_3 : @LT.lt Nat _ r_1 hj144.size := fj144_3.lt
     have ltj144_4 : @LT.lt Nat _ a1_2 hj144.size := fj144_4.lt
     have ltj144_7 : @LT.lt Nat _ r_2 hj144.size := fj144_7.lt
     have ltj144_8 : @LT.lt Nat _ b4 hj144.size := fj144_8.lt
     have ltj144_11 : @LT.lt Nat _ r_11 hj144.size := fj144_11.lt
     have ltj144_13 : @LT.lt Nat _ b19 hj144.size := fj144_13.lt
     have ltj144_16 : @LT.lt Nat _ ea hj144.size := fj144_16.lt
     refine ow (oT Tj144 m 452 #[oi p0, oi p1, oi p2, oi p3, oi 2, oi u5, oi u6, oi u7, oi u8, oR a1_1, oR a1_2, oR b4, oi u12, oi u13, oi u14, oi n15, oR w16, oR w17, oR b19, oR rp, oR er, oR b19] [(.int (2 : Int32))]) (fun _ k => XS.iload Xj144.here hx rfl (hb hby at_450) rfl k) ?_
     have hc145 : (0 : Int32) < (2 : Int32) := by decide
     refine ow (oT Tj144 m 455 #[oi p0, oi p1, oi p2, oi p3, oi 2, oi u5, oi u6, oi u7, oi u8, oR a1_1, oR a1_2, oR b4, oi u12, oi u13, oi u14, oi n15, oR w16, oR w17, oR b19, oR rp, oR er, oR b19] []) (fun _ k => XS.ifNo Xj144.here hx rfl (hb hby at_452) rfl ((if0 _ _).trans (tlt hc145).2.2.2) k) ?_
     refine ow (oT Tj144 m 457 #[oi p0, oi p1, oi p2, oi p3, oi 2, oi u5, oi u6, oi u7, oi u8, oR a1_1, oR a1_2, oR b4, oi u12, oi u13, oi u14, oi n15, oR w16, oR w17, oR b19, oR rp, oR er, oR b19] [(.ref b19)]) (fun _ k => XS.aload Xj144.here hx rfl (hb hby at_455) rfl rfl k) ?_
     refine ow (oT Tj144 m 458 #[oi p0, oi p1, oi p2, oi p3, oi 2, oi u5, oi u6, oi u7, oi u8, oR a1_1, oR a1_2, oR b4, oi u12, oi u13, oi u14, oi n15, oR w16, oR w17, oR b19, oR rp, oR er, oR b19] [(.int (0 : Int32)), (.ref b19)]) (fun _ k => XS.iconst Xj144.here hx rfl (hb hby at_457) k) ?_
     obtain ⟨cq146, kq146, q146a, q146b, q146c⟩ := isOf hZ ej144 fj144_13
     obtain ⟨_, _, ⟨T146, LC146, kC146, nC146⟩, -, X146, ⟨Lc146, hQ146, lq146, yq146, zq146⟩, st146⟩ := Xj144.interfaceBack hx (xi := oM12) (y := oM5) hown (mvT hZ (own_hw hw 138)) (mvT hZ (own_hw hw 139)) (mvT hZ (own_hw hw 140)) (mvT hZ (own_hw hw 199)) (mvT hZ (own_hw hw 200)) (mvT hZ (own_hw hw 201)) (mvT hZ (own_hw hw 202)) (mvT hZ (own_hw hw 163)) (by decide) (backOf (W := 0) (rge_02 l Z a0 hw [] b19 ea ke (.ref a1_1) (.ref a1_2) .null hj144 n0 (by omega) fj144_13 fj144_15 fj144_14 fj144_16 rfl) hZ (own_hw hw 203) (own_hw hw 46) (by decide) (by decide)) q146a q146b q146c (g := (mkF m 458 #[oi p0, oi p1, oi p2, oi p3, oi 2, oi u5, oi u6, oi u7, oi u8, oR a1_1, oR a1_2, oR b4, oi u12, oi u13, oi u14, oi n15, oR w16, oR w17, oR b19, oR rp, oR er, oR b19] [(.int (0 : Int32)), (.ref b19)])) rfl hml.symm (Steps.refl _) (argsL := [(.int (0 : Int32))]) (rest := []) (lenOf pd_14 rfl) rfl (Nat.le_of_eq rfl) (hb hby at_458) (fun _ _ => ⟨rfl, ej144, (by decide : 38 + 0 ≤ _), (by decide : 300 + 0 ≤ _)⟩)
     dsimp only [Pt.U, Pt.locs, Pt.cells, Pt.slots] at X146 lq146 yq146 zq146 st146 hQ146
     subst lq146 yq146 zq146
     obtain ⟨rfl, Nq146, eq146⟩ := hQ146
     have N146 := Fr.app Nj144 Nq146
     refine ow (oT T146 m 463 #[oi p0, oi p1, oi p2, oi p3, oi 2, oi u5, oi u6, oi u7, oi u8, oR a1_1, oR a1_2, oR b4, oi u12, oi u13, oi u14, oi n15, oR w16, oR w17, oR b19, oR rp, oR er, oR b19] [(.ref a1_1)]) (fun _ k => st146.trans k) ?_
     obtain ⟨T147, X147, e147, st147⟩ := castY X146 hx hZ hown (own_hw hw 26) eq146 (Ins.self fj144_0) (g := (mkF m 463 #[oi p0, oi p1, oi p2, oi p3, oi 2, oi u5, oi u6, oi u7, oi u8, oR a1_1, oR a1_2, oR b4, oi u12, oi u13, oi u14, oi n15, oR w16, oR w17, oR b19, oR rp, oR er, oR b19] [(.ref a1_1)])) rfl rfl (hb hby at_463)
     refine ow (oT T147 m 466 #[oi p0, oi p1, oi p2, oi p3, oi 2, oi u5, oi u6, oi u7, oi u8, oR a1_1, oR a1_2, oR b4, oi u12, oi u13, oi u14, oi n15, oR w16, oR w17, oR b19, oR rp, oR er, oR b19] [(.ref a1_1)]) (st147) ?_
     obtain ⟨T148, h148, X148, e148, E148, A148, D148, -, st148⟩ := newO X147 hx hZ hown (own_hw hw 26) (own_hw hw 10) (own_hw hw 2) e147 (g := (mkF m 466 #[oi p0, oi p1, oi p2, oi p3, oi 2, oi u5, oi u6, oi u7, oi u8, oR a1_1, oR a1_2, oR b4, oi u12, oi u13, oi u14, oi n15, oR w16, oR w17, oR b19, oR rp, oR er, oR b19] [(.ref a1_1)])) rfl (hb hby at_466) (by decide) (by decide)
     obtain ⟨b148, g148⟩ : ∃ z, z = hj144.size := ⟨_, rfl⟩
     rw [← g148] at A148 D148 st148
     have sz148 : hj144.size ≤ h148.size := E148.1
     have lt148 : @LT.lt Nat _ b148 h148.size := A148.lt
     have f149 : Fld Z h148 b148 oS0 "value" "[B" .null := D148 (Or.inr (own_hw hw 23)) (ty := (.array .byte)) (by decide)
     have f150 : Fld Z h148 b148 oS0 "coder" "B" (.int (0 : Int32)) := D148 (Or.inr (own_hw hw 25)) (ty := .byte) (by decide)
     refine ow (oT T148 m 469 #[oi p0, oi p1, oi p2, oi p3, oi 2, oi u5, oi u6, oi u7, oi u8, oR a1_1, oR a1_2, oR b4, oi u12, oi u13, oi u14, oi n15, oR w16, oR w17, oR b19, oR rp, oR er, oR b19] [(.ref b148), (.ref a1_1)]) (st148) ?_
     refine ow (oT T148 m 470 #[oi p0, oi p1, oi p2, oi p3, oi 2, oi u5, oi u6, oi u7, oi u8, oR a1_1, oR a1_2, oR b4, oi u12, oi u13, oi u14, oi n15, oR w16, oR w17, oR b19, oR rp, oR er, oR b19] [(.ref b148), (.ref b148), (.ref a1_1)]) (fun _ k => XS.dup X148.here hx rfl (hb hby at_469) rfl rfl k) ?_
     refine ow (oT T148 m 471 #[oi p0, oi p1, oi p2, oi p3, oi 2, oi u5, oi u6, oi u7, oi u8, oR a1_1, oR a1_2, oR b4, oi u12, oi u13, oi u14, oi n15, oR w16, oR w17, oR b19, oR rp, oR er, oR b19] [(.int (1 : Int32)), (.ref b148), (.ref b148), (.ref a1_1)]) (fun _ k => XS.iconst X148.here hx rfl (hb hby at_470) k) ?_
     obtain ⟨T151, h151, k151, X151, e151, E151, A151, st151⟩ := newP X148 hx hZ (own_hw hw 27) e148 (g := (mkF m 471 #[oi p0, oi p1, oi p2, oi p3, oi 2, oi u5, oi u6, oi u7, oi u8, oR a1_1, oR a1_2, oR b4, oi u12, oi u13, oi u14, oi n15, oR w16, oR w17, oR b19, oR rp, oR er, oR b19] [(.int (1 : Int32)), (.ref b148), (.ref b148), (.ref a1_1)])) rfl (hb hby at_471) rfl (by decide) (cap := 1) (by decide) (by decide) (by decide) (by decide)
     obtain ⟨b151, g151⟩ : ∃ z, z = h148.size := ⟨_, rfl⟩
     rw [← g151] at A151 st151
     have sz151 : h148.size ≤ h151.size := E151.1
     have lt151 : @LT.lt Nat _ b151 h151.size := A151.lt
     have v151 : Arv Z h151 b151 k151 .char (1 : Int32) [(.int (0 : Int32))] (.int (0 : Int32)) := (Arv.new A151 (by decide)).pad (pad_rep [] (.int (0 : Int32)) 1)
     refine ow (oT T151 m 473 #[oi p0, oi p1, oi p2, oi p3, oi 2, oi u5, oi u6, oi u7, oi u8, oR a1_1, oR a1_2, oR b4, oi u12, oi u13, oi u14, oi n15, oR w16, oR w17, oR b19, oR rp, oR er, oR b19] [(.ref b151), (.ref b148), (.ref b148), (.ref a1_1)]) (st151) ?_
     refine ow (oT T151 m 474 #[oi p0, oi p1, oi p2, oi p3, oi 2, oi u5, oi u6, oi u7, oi u8, oR a1_1, oR a1_2, oR b4, oi u12, oi u13, oi u14, oi n15, oR w16, oR w17, oR b19, oR rp, oR er, oR b19] [(.ref b151), (.ref b151), (.ref b148), (.ref b148), (.ref a1_1)]) (fun _ k => XS.dup X151.here hx rfl (hb hby at_473) rfl rfl k) ?_
     refine ow (oT T151 m 475 #[oi p0, oi p1, oi p2, oi p3, oi 2, oi u5, oi u6, oi u7, oi u8, oR a1_1, oR a1_2, oR b4, oi u12, oi u13, oi u14, oi n15, oR w16, oR w17, oR b19, oR rp, oR er, oR b19] [(.int (0 : Int32)), (.ref b151), (.ref b151), (.ref b148), (.ref b148), (.ref a1_1)]) (fun _ k => XS.iconst X151.here hx rfl (hb hby at_474) k) ?_
     refine ow (oT T151 m 477 #[oi p0, oi p1, oi p2, oi p3, oi 2, oi u5, oi u6, oi u7, oi u8, oR a1_1, oR a1_2, oR b4, oi u12, oi u13, oi u14, oi n15, oR w16, oR w17, oR b19, oR rp, oR er, oR b19] [(.int u5), (.int (0 : Int32)), (.ref b151), (.ref b151), (.ref b148), (.ref b148), (.ref a1_1)]) (fun _ k => XS.iload X151.here hx rfl (hb hby at_475) rfl k) ?_
     obtain ⟨cl152, Ar152, qc152, S152, M152, H152, G152⟩ := id v151
     have hin152 : ¬ ((0 : Int32) < 0 ∨ cl152.slots.size ≤ ((0 : Int32)).toNatClampNeg) := (inb_of S152 ⟨by decide, by decide⟩)
     obtain ⟨T152, h152, X152, e152, W152, st152⟩ := stC X151 hx hZ e151 Ar152 (j := (0 : Int32)) hin152 (g := (mkF m 477 #[oi p0, oi p1, oi p2, oi p3, oi 2, oi u5, oi u6, oi u7, oi u8, oR a1_1, oR a1_2, oR b4, oi u12, oi u13, oi u14, oi n15, oR w16, oR w17, oR b19, oR rp, oR er, oR b19] [(.int u5), (.int (0 : Int32)), (.ref b151), (.ref b151), (.ref b148), (.ref b148), (.ref a1_1)])) rfl rfl (hb hby at_477)
     have sz152 : h152.size = h151.size := W152.size
     have N152 := Fr.snoc X152 N146 (by omega)
     have v152 : Arv Z h152 b151 k151 .char (1 : Int32) [(.int (nar .char u5))] (.int (0 : Int32)) := Arv.set Ar152 qc152 S152 M152 H152 G152 (fits_nar_char _) W152 0 rfl (Nat.le_of_ble_eq_true rfl)
     refine ow (oT T152 m 478 #[oi p0, oi p1, oi p2, oi p3, oi 2, oi u5, oi u6, oi u7, oi u8, oR a1_1, oR a1_2, oR b4, oi u12, oi u13, oi u14, oi n15, oR w16, oR w17, oR b19, oR rp, oR er, oR b19] [(.ref b151), (.ref b148), (.ref b148), (.ref a1_1)]) (st152) ?_
     have v153 : Arv Z h152 b151 k151 .char (1 : Int32) [(.int u5)] (.int (0 : Int32)) := by have q_ := v152; rw [own_lat_ch hl_u5] at q_; exact q_
     have c155 : Exa Z h152 b148 oS0 := ((A148.ext E151).wr W152)
     have c156 : Fld Z h152 b148 oS0 "value" "[B" .null := ((f149.ext E151).other W152 (Or.inl (own_ne (by omega))))
     have c157 : Fld Z h152 b148 oS0 "coder" "B" (.int (0 : Int32)) := ((f150.ext E151).other W152 (Or.inl (own_ne (by omega))))
     have c158 : Sta Z h152 oS0 oS4 "Z" (.int zc) := (((fj144_12.ext E148).ext E151).wr W152)
     obtain ⟨_, _, ⟨T154, LC154, kC154, nC154⟩, -, X154, ⟨Lc154, hQ154, lq154, yq154, zq154⟩, st154⟩ := X152.specialBack hx (y := oM0) rfl hown (mvT hZ (own_hw hw 28)) (mvT hZ (own_hw hw 29)) (mvT hZ (own_hw hw 30)) (by decide) (backOf (W := 2) (rsc_1 l Z a0 hw [] b148 b151 k151 zc u5 h152 n0 (by omega) c155 c156 c157 v153 c158 (by assumption) hl_u5 (by omega) (own_ne (by omega))) hZ (own_hw hw 30) (own_hw hw 2) (by decide) (by decide)) (g := (mkF m 478 #[oi p0, oi p1, oi p2, oi p3, oi 2, oi u5, oi u6, oi u7, oi u8, oR a1_1, oR a1_2, oR b4, oi u12, oi u13, oi u14, oi n15, oR w16, oR w17, oR b19, oR rp, oR er, oR b19] [(.ref b151), (.ref b148), (.ref b148), (.ref a1_1)])) rfl hml.symm (Steps.refl _) (a := b148) (argsL := [(.ref b151)]) (rest := [(.ref b148), (.ref a1_1)]) (lenOf pd_20 rfl) rfl (Nat.le_of_eq rfl) (hb hby at_478) (fun _ _ => ⟨rfl, e152, (by decide : 40 + 1 ≤ _), (by decide : 305 + 1 ≤ _)⟩)
     dsimp only [Pt.U, Pt.locs, Pt.cells, Pt.slots] at X154 lq154 yq154 zq154 st154 hQ154
     subst lq154 yq154 zq154
     obtain ⟨h154, e154⟩ : ∃ z, T154.heap = z := ⟨_, rfl⟩
     rw [e154] at hQ154
     obtain ⟨r_154, kr_154, rfl, Nq154, K154, g154_0, g154_1, g154_2, g154_3, g154_4⟩ := hQ154
     have sz154 : h152.size ≤ h154.size := K154.1
     have N154 := Fr.app N152 Nq154
     have lt154_1 : @LT.lt Nat _ b148 h154.size := g154_0.lt
     have lt154_2 : @LT.lt Nat _ r_154 h154.size := g154_3.lt
     refine ow (oT T154 m 481 #[oi p0, oi p1, oi p2, oi p3, oi 2, oi u5, oi u6, oi u7, oi u8, oR a1_1, oR a1_2, oR b4, oi u12, oi u13, oi u14, oi n15, oR w16, oR w17, oR b19, oR rp, oR er, oR b19] [(.ref b148), (.ref a1_1)]) (fun _ k => st154.trans k) ?_
     have c160 : Sta Z h154 oS0 oS4 "Z" (.int zc) := (own_sta_keep c158 K154 (allS (P := fun x => ∀ c : Cell, h152[x]? = some c → c.vm.isStatics = false) (own_pl_exa c155) all0))
     have c161 : Exa Z h154 a1_1 oS0 := ((((fj144_0.ext E148).ext E151).wr W152).keep K154)
     have c162 : Fld Z h154 a1_1 oS0 "value" "[B" (.ref r_1) := ((((fj144_1.ext E148).ext E151).other W152 (Or.inl (own_ne (by omega)))).keep K154 (ninS (own_ne (by omega)) nin0))
     have c163 : Fld Z h154 a1_1 oS0 "coder" "B" (.int (0 : Int32)) := ((((fj144_2.ext E148).ext E151).other W152 (Or.inl (own_ne (by omega)))).keep K154 (ninS (own_ne (by omega)) nin0))
     have c164 : Arv Z h154 r_1 kr_1 .byte (1 : Int32) [(.int (own_by u5))] (.int (0 : Int32)) := ((((fj144_3.ext E148).ext E151).other W152 (own_ne (by omega))).keep K154 (ninS (own_ne (by omega)) nin0))
     obtain ⟨cq159, kq159, q159a, q159b, q159c⟩ := isOf hZ e154 c161
     obtain ⟨_, _, ⟨T159, LC159, kC159, nC159⟩, -, X159, ⟨Lc159, hQ159, lq159, yq159, zq159⟩, st159⟩ := X154.virtualBack hx (y := oM1) (z := oM1) hown (mvT hZ (own_hw hw 146)) (mvT hZ (own_hw hw 147)) (notFace_of_selects (args := #[]) (mvT hZ (own_hw hw 149))) (mvT hZ (own_hw hw 149)) (mvT hZ (own_hw hw 148)) (by decide) (backOf (W := 0) (rse_gen l Z a0 hw [] a1_1 b148 zc r_1 kr_1 (1 : Int32) [(.int (own_by u5))] r_154 kr_154 h154 n0 (by omega) c160 (by assumption) (own_ne (by omega)) c161 c162 c163 g154_0 g154_1 g154_2 c164 g154_3 (Or.inr (Or.inl ⟨_, rfl, rfl⟩))) hZ (own_hw hw 150) (own_hw hw 2) (by decide) (by decide)) q159a q159c (g := (mkF m 481 #[oi p0, oi p1, oi p2, oi p3, oi 2, oi u5, oi u6, oi u7, oi u8, oR a1_1, oR a1_2, oR b4, oi u12, oi u13, oi u14, oi n15, oR w16, oR w17, oR b19, oR rp, oR er, oR b19] [(.ref b148), (.ref a1_1)])) rfl hml.symm (Steps.refl _) (argsL := [(.ref b148)]) (rest := []) (lenOf pd_24 rfl) rfl (Nat.le_of_eq rfl) (hb hby at_481) (fun _ _ => ⟨rfl, e154, (by decide : 41 + 0 ≤ _), (by decide : 306 + 0 ≤ _)⟩)
     dsimp only [Pt.U, Pt.locs, Pt.cells, Pt.slots] at X159 lq159 yq159 zq159 st159 hQ159
     subst lq159 yq159 zq159
     obtain ⟨rfl, Nq159, eq159⟩ := hQ159
     have N159 := Fr.app N154 Nq159
     refine ow (oT T159 m 484 #[oi p0, oi p1, oi p2, oi p3, oi 2, oi u5, oi u6, oi u7, oi u8, oR a1_1, oR a1_2, oR b4, oi u12, oi u13, oi u14, oi n15, oR w16, oR w17, oR b19, oR rp, oR er, oR b19] [(.int (1 : Int32))]) (fun _ k => st159.trans k) ?_
     have hc165 : ¬ ((1 : Int32) = (0 : Int32)) := by decide
     refine ow (oT T159 m 489 #[oi p0, oi p1, oi p2, oi p3, oi 2, oi u5, oi u6, oi u7, oi u8, oR a1_1, oR a1_2, oR b4, oi u12, oi u13, oi u14, oi n15, oR w16, oR w17, oR b19, oR rp, oR er, oR b19] []) (fun _ k => XS.ifYes X159.here hx rfl (pc0 := 484) (pc' := 489) rfl (hb hby at_484) rfl ((if0 _ _).trans (feq hc165).2) (by decide) (by decide) k) ?_
     have KA166 : Keep hj144 h154 [] := (((((Keep.refl hj144 []).ext E148).ext E151).wr W152 (Or.inr (by omega))).trans K154 (allS (P := fun x => x ∈ [] ∨ hj144.size ≤ x) (Or.inr (by omega)) all0))
     have AS166 := CHr.keep (EL := own_EL) KA166 all0 Aj144.1
     have AA167 := Aj144.trans AS166
     have c168 : Exa Z h154 b19 oS1 := ((((fj144_13.ext E148).ext E151).wr W152).keep K154)
     have c169 : Exa Z h154 a1_2 oS0 := ((((fj144_4.ext E148).ext E151).wr W152).keep K154)
     have c170 : Fld Z h154 a1_2 oS0 "value" "[B" (.ref r_2) := ((((fj144_5.ext E148).ext E151).other W152 (Or.inl (own_ne (by omega)))).keep K154 (ninS (own_ne (by omega)) nin0))
     have c171 : Fld Z h154 a1_2 oS0 "coder" "B" (.int (0 : Int32)) := ((((fj144_6.ext E148).ext E151).other W152 (Or.inl (own_ne (by omega)))).keep K154 (ninS (own_ne (by omega)) nin0))
     have c172 : Arv Z h154 r_2 kr_2 .byte (1 : Int32) [(.int (own_by u6))] (.int (0 : Int32)) := ((((fj144_7.ext E148).ext E151).other W152 (own_ne (by omega))).keep K154 (ninS (own_ne (by omega)) nin0))
     have c173 : Exa Z h154 b4 oS0 := ((((fj144_8.ext E148).ext E151).wr W152).keep K154)
     have c174 : Fld Z h154 b4 oS0 "value" "[B" (.ref r_11) := ((((fj144_9.ext E148).ext E151).other W152 (Or.inl (own_ne (by omega)))).keep K154 (ninS (own_ne (by omega)) nin0))
     have c175 : Fld Z h154 b4 oS0 "coder" "B" (.int (0 : Int32)) := ((((fj144_10.ext E148).ext E151).other W152 (Or.inl (own_ne (by omega)))).keep K154 (ninS (own_ne (by omega)) nin0))
     have c176 : Arv Z h154 r_11 kr_11 .byte (2 : Int32) [(.int (own_by u7)), (.int (own_by u8))] (.int (0 : Int32)) := ((((fj144_11.ext E148).ext E151).other W152 (own_ne (by omega))).keep K154 (ninS (own_ne (by omega)) nin0))
     have c177 : Fld Z h154 b19 oS1 "elementData" oS3 (.ref ea) := ((((fj144_14.ext E148).ext E151).other W152 (Or.inl (own_ne (by omega)))).keep K154 (ninS (own_ne (by omega)) nin0))
     have c178 : Fld Z h154 b19 oS1 "size" "I" (.int (2 : Int32)) := ((((fj144_15.ext E148).ext E151).other W152 (Or.inl (own_ne (by omega)))).keep K154 (ninS (own_ne (by omega)) nin0))
     have c179 : Arv Z h154 ea ke (.object oS2) (10 : Int32) [(.ref a1_1), (.ref a1_2), .null, .null, .null, .null, .null, .null, .null, .null] .null := ((((fj144_16.ext E148).ext E151).other W152 (own_ne (by omega))).keep K154 (ninS (own_ne (by omega)) nin0))
     exact J489_120 _ _ _ ea ke rp er _ _ (own_widen X159 (by decide) (by decide)) eq159 N159 hSj144 (by omega) hZ hown AA167 (by omega) c161 c162 c163 c164 c169 c170 c171 c172 c173 c174 c175 c176 c160 c168 c177 c178 c179
    refine ow (oT T23 m 326 #[oi p0, oi p1, oi p2, oi p3, oi 2, oi u5, oi u6, oi u7, oi u8, oR a1_1, oR a1_2, oR b4, oi u12, oi u13, oi u14, oi n15, oR w16, oR w17, oR b19, .unset, .unset, .unset] [(.int (2 : Int32))]) (fun _ k => XS.iload X23.here hx rfl (hb hby at_324) rfl k) ?_
    have hc180 : (0 : Int32) < (2 : Int32) := by decide
    refine ow (oT T23 m 329 #[oi p0, oi p1, oi p2, oi p3, oi 2, oi u5, oi u6, oi u7, oi u8, oR a1_1, oR a1_2, oR b4, oi u12, oi u13, oi u14, oi n15, oR w16, oR w17, oR b19, .unset, .unset, .unset] []) (fun _ k => XS.ifNo X23.here hx rfl (hb hby at_326) rfl ((if0 _ _).trans (tlt hc180).2.2.2) k) ?_
    refine ow (oT T23 m 331 #[oi p0, oi p1, oi p2, oi p3, oi 2, oi u5, oi u6, oi u7, oi u8, oR a1_1, oR a1_2, oR b4, oi u12, oi u13, oi u14, oi n15, oR w16, oR w17, oR b19, .unset, .unset, .unset] [(.ref b19)]) (fun _ k => XS.aload X23.here hx rfl (hb hby at_329) rfl rfl k) ?_
    refine ow (oT T23 m 333 #[oi p0, oi p1, oi p2, oi p3, oi 2, oi u5, oi u6, oi u7, oi u8, oR a1_1, oR a1_2, oR b4, oi u12, oi u13, oi u14, oi n15, oR w16, oR w17, oR b19, .unset, .unset, .unset] [(.ref a1_1), (.ref b19)]) (fun _ k => XS.aload X23.here hx rfl (hb hby at_331) rfl rfl k) ?_
    have c182 : Sta Z h23 oS1 oS10 oS3 (.ref de) := (own_sta_keep c24 K23 (allS (P := fun x => ∀ c : Cell, h19[x]? = some c → c.vm.isStatics = false) (own_pl_exa A19) all0))
    have c183 : Arv Z h23 de kde (.object oS2) (0 : Int32) [] .null := ((fj18_2.ext E19).keep K23 (ninS (own_ne (by omega)) nin0))
    have c184 : Exa Z h23 a1_1 oS0 := ((fj18_4.ext E19).keep K23)
    obtain ⟨cq181, kq181, q181a, q181b, q181c⟩ := isOf hZ e23 g23_0
    obtain ⟨_, _, ⟨T181, LC181, kC181, nC181⟩, -, X181, ⟨Lc181, hQ181, lq181, yq181, zq181⟩, st181⟩ := X23.interfaceBack hx (xi := oM22) (y := oM8) hown (mvT hZ (own_hw hw 167)) (mvT hZ (own_hw hw 168)) (mvT hZ (own_hw hw 169)) (mvT hZ (own_hw hw 170)) (mvT hZ (own_hw hw 171)) (mvT hZ (own_hw hw 172)) (mvT hZ (own_hw hw 173)) (mvT hZ (own_hw hw 163)) (by decide) (backOf (W := 0) (rap_0 l Z a0 hw [] b19 (0 : Int32) a1_1 de kde h23 n0 (by omega) g23_0 g23_1 g23_2 g23_3 c182 c183 (by omega) (own_ne (by omega)) c184) hZ (own_hw hw 174) (own_hw hw 46) (by decide) (by decide)) q181a q181b q181c (g := (mkF m 333 #[oi p0, oi p1, oi p2, oi p3, oi 2, oi u5, oi u6, oi u7, oi u8, oR a1_1, oR a1_2, oR b4, oi u12, oi u13, oi u14, oi n15, oR w16, oR w17, oR b19, .unset, .unset, .unset] [(.ref a1_1), (.ref b19)])) rfl hml.symm (Steps.refl _) (argsL := [(.ref a1_1)]) (rest := []) (lenOf pd_24 rfl) rfl (Nat.le_of_eq rfl) (hb hby at_333) (fun _ _ => ⟨rfl, e23, (by decide : 25 + 1 ≤ _), (by decide : 203 + 10 ≤ _)⟩)
    dsimp only [Pt.U, Pt.locs, Pt.cells, Pt.slots] at X181 lq181 yq181 zq181 st181 hQ181
    subst lq181 yq181 zq181
    obtain ⟨h181, e181⟩ : ∃ z, T181.heap = z := ⟨_, rfl⟩
    rw [e181] at hQ181
    obtain ⟨ea_181, ke_181, rfl, Nq181, K181, g181_0, g181_1, g181_2, g181_3, g181_4, g181_5, g181_6⟩ := hQ181
    have sz181 : h23.size ≤ h181.size := K181.1
    have N181 := Fr.app N23 Nq181
    have lt181_1 : @LT.lt Nat _ b19 h181.size := g181_0.lt
    have lt181_2 : @LT.lt Nat _ ea_181 h181.size := g181_4.lt
    refine ow (oT T181 m 338 #[oi p0, oi p1, oi p2, oi p3, oi 2, oi u5, oi u6, oi u7, oi u8, oR a1_1, oR a1_2, oR b4, oi u12, oi u13, oi u14, oi n15, oR w16, oR w17, oR b19, .unset, .unset, .unset] [(.int (1 : Int32))]) (fun _ k => st181.trans k) ?_
    refine ow (oT T181 m 339 #[oi p0, oi p1, oi p2, oi p3, oi 2, oi u5, oi u6, oi u7, oi u8, oR a1_1, oR a1_2, oR b4, oi u12, oi u13, oi u14, oi n15, oR w16, oR w17, oR b19, .unset, .unset, .unset] []) (fun _ k => XS.pop X181.here hx rfl (hb hby at_338) rfl rfl k) ?_
    refine ow (oT T181 m 341 #[oi p0, oi p1, oi p2, oi p3, oi 2, oi u5, oi u6, oi u7, oi u8, oR a1_1, oR a1_2, oR b4, oi u12, oi u13, oi u14, oi n15, oR w16, oR w17, oR b19, .unset, .unset, .unset] [(.int (2 : Int32))]) (fun _ k => XS.iload X181.here hx rfl (hb hby at_339) rfl k) ?_
    refine ow (oT T181 m 342 #[oi p0, oi p1, oi p2, oi p3, oi 2, oi u5, oi u6, oi u7, oi u8, oR a1_1, oR a1_2, oR b4, oi u12, oi u13, oi u14, oi n15, oR w16, oR w17, oR b19, .unset, .unset, .unset] [(.int (1 : Int32)), (.int (2 : Int32))]) (fun _ k => XS.iconst X181.here hx rfl (hb hby at_341) k) ?_
    have hc185 : (1 : Int32) < (2 : Int32) := by decide
    refine ow (oT T181 m 345 #[oi p0, oi p1, oi p2, oi p3, oi 2, oi u5, oi u6, oi u7, oi u8, oR a1_1, oR a1_2, oR b4, oi u12, oi u13, oi u14, oi n15, oR w16, oR w17, oR b19, .unset, .unset, .unset] []) (fun _ k => XS.icmpNo X181.here hx rfl (hb hby at_342) rfl (tlt hc185).2.2.2 k) ?_
    refine ow (oT T181 m 347 #[oi p0, oi p1, oi p2, oi p3, oi 2, oi u5, oi u6, oi u7, oi u8, oR a1_1, oR a1_2, oR b4, oi u12, oi u13, oi u14, oi n15, oR w16, oR w17, oR b19, .unset, .unset, .unset] [(.ref b19)]) (fun _ k => XS.aload X181.here hx rfl (hb hby at_345) rfl rfl k) ?_
    refine ow (oT T181 m 349 #[oi p0, oi p1, oi p2, oi p3, oi 2, oi u5, oi u6, oi u7, oi u8, oR a1_1, oR a1_2, oR b4, oi u12, oi u13, oi u14, oi n15, oR w16, oR w17, oR b19, .unset, .unset, .unset] [(.ref a1_2), (.ref b19)]) (fun _ k => XS.aload X181.here hx rfl (hb hby at_347) rfl rfl k) ?_
    have c187 : Exa Z h181 a1_2 oS0 := (((fj18_8.ext E19).keep K23).keep K181)
    obtain ⟨cq186, kq186, q186a, q186b, q186c⟩ := isOf hZ e181 g181_0
    obtain ⟨_, _, ⟨T186, LC186, kC186, nC186⟩, -, X186, ⟨Lc186, hQ186, lq186, yq186, zq186⟩, st186⟩ := X181.interfaceBack hx (xi := oM22) (y := oM8) hown (mvT hZ (own_hw hw 167)) (mvT hZ (own_hw hw 168)) (mvT hZ (own_hw hw 169)) (mvT hZ (own_hw hw 170)) (mvT hZ (own_hw hw 171)) (mvT hZ (own_hw hw 172)) (mvT hZ (own_hw hw 173)) (mvT hZ (own_hw hw 163)) (by decide) (backOf (W := 0) (rap_1 l Z a0 hw [] b19 ((0 : Int32) + (1 : Int32)) a1_2 ea_181 ke_181 (.ref a1_1) h181 n0 (by omega) g181_0 g181_1 g181_2 g181_3 g181_4 g181_5 (by omega) (by omega) (own_ne (by omega)) c187) hZ (own_hw hw 174) (own_hw hw 46) (by decide) (by decide)) q186a q186b q186c (g := (mkF m 349 #[oi p0, oi p1, oi p2, oi p3, oi 2, oi u5, oi u6, oi u7, oi u8, oR a1_1, oR a1_2, oR b4, oi u12, oi u13, oi u14, oi n15, oR w16, oR w17, oR b19, .unset, .unset, .unset] [(.ref a1_2), (.ref b19)])) rfl hml.symm (Steps.refl _) (argsL := [(.ref a1_2)]) (rest := []) (lenOf pd_24 rfl) rfl (Nat.le_of_eq rfl) (hb hby at_349) (fun _ _ => ⟨rfl, e181, (by decide : 26 + 0 ≤ _), (by decide : 213 + 0 ≤ _)⟩)
    dsimp only [Pt.U, Pt.locs, Pt.cells, Pt.slots] at X186 lq186 yq186 zq186 st186 hQ186
    subst lq186 yq186 zq186
    obtain ⟨h186, e186⟩ : ∃ z, T186.heap = z := ⟨_, rfl⟩
    rw [e186] at hQ186
    obtain ⟨rfl, Nq186, K186, g186_0, g186_1, g186_2, g186_3, g186_4, g186_5⟩ := hQ186
    have sz186 : h181.size ≤ h186.size := K186.1
    have N186 := Fr.app N181 Nq186
    have lt186_1 : @LT.lt Nat _ b19 h186.size := g186_0.lt
    have lt186_2 : @LT.lt Nat _ ea_181 h186.size := g186_4.lt
    refine ow (oT T186 m 354 #[oi p0, oi p1, oi p2, oi p3, oi 2, oi u5, oi u6, oi u7, oi u8, oR a1_1, oR a1_2, oR b4, oi u12, oi u13, oi u14, oi n15, oR w16, oR w17, oR b19, .unset, .unset, .unset] [(.int (1 : Int32))]) (fun _ k => st186.trans k) ?_
    refine ow (oT T186 m 355 #[oi p0, oi p1, oi p2, oi p3, oi 2, oi u5, oi u6, oi u7, oi u8, oR a1_1, oR a1_2, oR b4, oi u12, oi u13, oi u14, oi n15, oR w16, oR w17, oR b19, .unset, .unset, .unset] []) (fun _ k => XS.pop X186.here hx rfl (hb hby at_354) rfl rfl k) ?_
    refine ow (oT T186 m 357 #[oi p0, oi p1, oi p2, oi p3, oi 2, oi u5, oi u6, oi u7, oi u8, oR a1_1, oR a1_2, oR b4, oi u12, oi u13, oi u14, oi n15, oR w16, oR w17, oR b19, .unset, .unset, .unset] [(.int (2 : Int32))]) (fun _ k => XS.iload X186.here hx rfl (hb hby at_355) rfl k) ?_
    refine ow (oT T186 m 358 #[oi p0, oi p1, oi p2, oi p3, oi 2, oi u5, oi u6, oi u7, oi u8, oR a1_1, oR a1_2, oR b4, oi u12, oi u13, oi u14, oi n15, oR w16, oR w17, oR b19, .unset, .unset, .unset] [(.int (2 : Int32)), (.int (2 : Int32))]) (fun _ k => XS.iconst X186.here hx rfl (hb hby at_357) k) ?_
    have hc188 : ¬ ((2 : Int32) < (2 : Int32)) := by decide
    refine ow (oT T186 m 371 #[oi p0, oi p1, oi p2, oi p3, oi 2, oi u5, oi u6, oi u7, oi u8, oR a1_1, oR a1_2, oR b4, oi u12, oi u13, oi u14, oi n15, oR w16, oR w17, oR b19, .unset, .unset, .unset] []) (fun _ k => XS.icmpYes X186.here hx rfl (pc0 := 358) (pc' := 371) rfl (hb hby at_358) rfl (flt hc188).2.2.2 (by decide) (by decide) k) ?_
    refine ow (oT T186 m 373 #[oi p0, oi p1, oi p2, oi p3, oi 2, oi u5, oi u6, oi u7, oi u8, oR a1_1, oR a1_2, oR b4, oi u12, oi u13, oi u14, oi n15, oR w16, oR w17, oR b19, .unset, .unset, .unset] [(.ref b19)]) (fun _ k => XS.aload X186.here hx rfl (hb hby at_371) rfl rfl k) ?_
    refine ow (oT T186 m 375 #[oi p0, oi p1, oi p2, oi p3, oi 2, oi u5, oi u6, oi u7, oi u8, oR a1_1, oR a1_2, oR b4, oi u12, oi u13, oi u14, oi n15, oR w16, oR w17, oR b19, .unset, .unset, .unset] [(.ref w16), (.ref b19)]) (fun _ k => XS.aload X186.here hx rfl (hb hby at_373) rfl rfl k) ?_
    have c190 : Sta Z h186 oS7 "EMPTY" oS5 (.ref em) := (own_sta_keep (own_sta_keep (own_sta_keep (fj18_3.ext E19) K23 (allS (P := fun x => ∀ c : Cell, h19[x]? = some c → c.vm.isStatics = false) (own_pl_exa A19) all0)) K181 (allS (P := fun x => ∀ c : Cell, h23[x]? = some c → c.vm.isStatics = false) (own_pl_exa g23_0) all0)) K186 (allS (P := fun x => ∀ c : Cell, h181[x]? = some c → c.vm.isStatics = false) (own_pl_exa g181_0) (allS (P := fun x => ∀ c : Cell, h181[x]? = some c → c.vm.isStatics = false) (own_pl_arv g181_4) all0)))
    obtain ⟨_, _, ⟨T189, LC189, kC189, nC189⟩, -, X189, ⟨Lc189, hQ189, lq189, yq189, zq189⟩, st189⟩ := Jvm.LawKit.callS X186 hx (y := oM19) hown (mvT hZ (own_hw hw 68)) (mvT hZ (own_hw hw 69)) (mvT hZ (own_hw hw 70)) (mvT hZ (own_hw hw 71)) (by decide) (backOf (W := 0) (rm14 l Z a0 hw [] b19 w16 em h186 n0 (by omega) c190) hZ (own_hw hw 71) (own_hw hw 70) (by decide) (by decide)) (g := (mkF m 375 #[oi p0, oi p1, oi p2, oi p3, oi 2, oi u5, oi u6, oi u7, oi u8, oR a1_1, oR a1_2, oR b4, oi u12, oi u13, oi u14, oi n15, oR w16, oR w17, oR b19, .unset, .unset, .unset] [(.ref w16), (.ref b19)])) rfl hml.symm (argsL := [(.ref b19), (.ref w16)]) (rest := []) (lenOf pd_21 rfl) rfl (Nat.le_of_eq rfl) (hb hby at_375) (fun _ _ => ⟨rfl, e186, (by decide : 26 + 2 ≤ _), (by decide : 213 + 5 ≤ _)⟩)
    dsimp only [Pt.U, Pt.locs, Pt.cells, Pt.slots] at X189 lq189 yq189 zq189 st189 hQ189
    subst lq189 yq189 zq189
    obtain ⟨h189, e189⟩ : ∃ z, T189.heap = z := ⟨_, rfl⟩
    rw [e189] at hQ189
    obtain ⟨rp_189, r_189, rfl, Nq189, K189, g189_0, g189_1, g189_2, g189_3, g189_4, g189_5, g189_6, g189_7, g189_8⟩ := hQ189
    have sz189 : h186.size ≤ h189.size := K189.1
    have N189 := Fr.app N186 Nq189
    have lt189_1 : @LT.lt Nat _ rp_189 h189.size := g189_0.lt
    have lt189_2 : @LT.lt Nat _ r_189 h189.size := g189_4.lt
    refine ow (oT T189 m 378 #[oi p0, oi p1, oi p2, oi p3, oi 2, oi u5, oi u6, oi u7, oi u8, oR a1_1, oR a1_2, oR b4, oi u12, oi u13, oi u14, oi n15, oR w16, oR w17, oR b19, .unset, .unset, .unset] [(.ref rp_189)]) (fun t k => st189 t k) ?_
    refine ow (oT T189 m 380 #[oi p0, oi p1, oi p2, oi p3, oi 2, oi u5, oi u6, oi u7, oi u8, oR a1_1, oR a1_2, oR b4, oi u12, oi u13, oi u14, oi n15, oR w16, oR w17, oR b19, oR rp_189, .unset, .unset] []) (fun _ k => XS.astore X189.here hx rfl (hb hby at_378) rfl rfl (l' := #[oi p0, oi p1, oi p2, oi p3, oi 2, oi u5, oi u6, oi u7, oi u8, oR a1_1, oR a1_2, oR b4, oi u12, oi u13, oi u14, oi n15, oR w16, oR w17, oR b19, oR rp_189, .unset, .unset]) rfl k) ?_
    refine ow (oT T189 m 382 #[oi p0, oi p1, oi p2, oi p3, oi 2, oi u5, oi u6, oi u7, oi u8, oR a1_1, oR a1_2, oR b4, oi u12, oi u13, oi u14, oi n15, oR w16, oR w17, oR b19, oR rp_189, .unset, .unset] [(.ref rp_189)]) (fun _ k => XS.aload X189.here hx rfl (hb hby at_380) rfl rfl k) ?_
    obtain ⟨cq191, kq191, q191a, q191b, q191c⟩ := isOf hZ e189 g189_0
    obtain ⟨_, _, ⟨T191, LC191, kC191, nC191⟩, -, X191, ⟨Lc191, hQ191, lq191, yq191, zq191⟩, st191⟩ := X189.virtualBack hx (y := oM9) (z := oM9) hown (mvT hZ (own_hw hw 119)) (mvT hZ (own_hw hw 120)) (notFace_of_selects (args := #[]) (mvT hZ (own_hw hw 122))) (mvT hZ (own_hw hw 122)) (mvT hZ (own_hw hw 121)) (by decide) (backOf (W := 0) (rm21 l Z a0 hw [] rp_189 (0 : Int32) h189 n0 (by omega) g189_1) hZ (own_hw hw 123) (own_hw hw 70) (by decide) (by decide)) q191a q191c (g := (mkF m 382 #[oi p0, oi p1, oi p2, oi p3, oi 2, oi u5, oi u6, oi u7, oi u8, oR a1_1, oR a1_2, oR b4, oi u12, oi u13, oi u14, oi n15, oR w16, oR w17, oR b19, oR rp_189, .unset, .unset] [(.ref rp_189)])) rfl hml.symm (Steps.refl _) (argsL := []) (rest := []) (lenOf pd_22 rfl) rfl (Nat.le_of_eq rfl) (hb hby at_382) (fun _ _ => ⟨rfl, e189, (by decide : 28 + 0 ≤ _), (by decide : 218 + 0 ≤ _)⟩)
    dsimp only [Pt.U, Pt.locs, Pt.cells, Pt.slots] at X191 lq191 yq191 zq191 st191 hQ191
    subst lq191 yq191 zq191
    obtain ⟨rfl, Nq191, eq191⟩ := hQ191
    have N191 := Fr.app N189 Nq191
    refine ow (oT T191 m 385 #[oi p0, oi p1, oi p2, oi p3, oi 2, oi u5, oi u6, oi u7, oi u8, oR a1_1, oR a1_2, oR b4, oi u12, oi u13, oi u14, oi n15, oR w16, oR w17, oR b19, oR rp_189, .unset, .unset] [(.int (0 : Int32))]) (fun _ k => st191.trans k) ?_
    have hc192 : (0 : Int32) = (0 : Int32) := by decide
    refine ow (oT T191 m 390 #[oi p0, oi p1, oi p2, oi p3, oi 2, oi u5, oi u6, oi u7, oi u8, oR a1_1, oR a1_2, oR b4, oi u12, oi u13, oi u14, oi n15, oR w16, oR w17, oR b19, oR rp_189, .unset, .unset] []) (fun _ k => XS.ifYes X191.here hx rfl (pc0 := 385) (pc' := 390) rfl (hb hby at_385) rfl ((if0 _ _).trans (teq hc192).1) (by decide) (by decide) k) ?_
    refine ow (oT T191 m 392 #[oi p0, oi p1, oi p2, oi p3, oi 2, oi u5, oi u6, oi u7, oi u8, oR a1_1, oR a1_2, oR b4, oi u12, oi u13, oi u14, oi n15, oR w16, oR w17, oR b19, oR rp_189, .unset, .unset] [(.ref rp_189)]) (fun _ k => XS.aload X191.here hx rfl (hb hby at_390) rfl rfl k) ?_
    obtain ⟨cq193, kq193, q193a, q193b, q193c⟩ := isOf hZ eq191 g189_0
    obtain ⟨_, _, ⟨T193, LC193, kC193, nC193⟩, -, X193, ⟨Lc193, hQ193, lq193, yq193, zq193⟩, st193⟩ := X191.virtualBack hx (y := oM10) (z := oM10) hown (mvT hZ (own_hw hw 124)) (mvT hZ (own_hw hw 125)) (notFace_of_selects (args := #[]) (mvT hZ (own_hw hw 127))) (mvT hZ (own_hw hw 127)) (mvT hZ (own_hw hw 126)) (by decide) (backOf (W := 0) (rm22 l Z a0 hw [] rp_189 r_189 h189 n0 (by omega) g189_3) hZ (own_hw hw 128) (own_hw hw 70) (by decide) (by decide)) q193a q193c (g := (mkF m 392 #[oi p0, oi p1, oi p2, oi p3, oi 2, oi u5, oi u6, oi u7, oi u8, oR a1_1, oR a1_2, oR b4, oi u12, oi u13, oi u14, oi n15, oR w16, oR w17, oR b19, oR rp_189, .unset, .unset] [(.ref rp_189)])) rfl hml.symm (Steps.refl _) (argsL := []) (rest := []) (lenOf pd_23 rfl) rfl (Nat.le_of_eq rfl) (hb hby at_392) (fun _ _ => ⟨rfl, eq191, (by decide : 28 + 0 ≤ _), (by decide : 218 + 0 ≤ _)⟩)
    dsimp only [Pt.U, Pt.locs, Pt.cells, Pt.slots] at X193 lq193 yq193 zq193 st193 hQ193
    subst lq193 yq193 zq193
    obtain ⟨rfl, Nq193, eq193⟩ := hQ193
    have N193 := Fr.app N191 Nq193
    refine ow (oT T193 m 395 #[oi p0, oi p1, oi p2, oi p3, oi 2, oi u5, oi u6, oi u7, oi u8, oR a1_1, oR a1_2, oR b4, oi u12, oi u13, oi u14, oi n15, oR w16, oR w17, oR b19, oR rp_189, .unset, .unset] [(.ref r_189)]) (fun _ k => st193.trans k) ?_
    refine ow (oT T193 m 397 #[oi p0, oi p1, oi p2, oi p3, oi 2, oi u5, oi u6, oi u7, oi u8, oR a1_1, oR a1_2, oR b4, oi u12, oi u13, oi u14, oi n15, oR w16, oR w17, oR b19, oR rp_189, oR r_189, .unset] []) (fun _ k => XS.astore X193.here hx rfl (hb hby at_395) rfl rfl (l' := #[oi p0, oi p1, oi p2, oi p3, oi 2, oi u5, oi u6, oi u7, oi u8, oR a1_1, oR a1_2, oR b4, oi u12, oi u13, oi u14, oi n15, oR w16, oR w17, oR b19, oR rp_189, oR r_189, .unset]) rfl k) ?_
    refine ow (oT T193 m 399 #[oi p0, oi p1, oi p2, oi p3, oi 2, oi u5, oi u6, oi u7, oi u8, oR a1_1, oR a1_2, oR b4, oi u12, oi u13, oi u14, oi n15, oR w16, oR w17, oR b19, oR rp_189, oR r_189, .unset] [(.ref r_189)]) (fun _ k => XS.aload X193.here hx rfl (hb hby at_397) rfl rfl k) ?_
    have c195 : Sta Z h189 oS7 "EMPTY" oS5 (.ref em) := (own_sta_keep c190 K189 all0)
    obtain ⟨cq194, kq194, q194a, q194b, q194c⟩ := isOf hZ eq193 g189_4
    obtain ⟨_, _, ⟨T194, LC194, kC194, nC194⟩, -, X194, ⟨Lc194, hQ194, lq194, yq194, zq194⟩, st194⟩ := X193.interfaceBack hx (xi := oM17) (y := oM20) hown (mvT hZ (own_hw hw 129)) (mvT hZ (own_hw hw 130)) (mvT hZ (own_hw hw 131)) (mvT hZ (own_hw hw 132)) (mvT hZ (own_hw hw 133)) (mvT hZ (own_hw hw 134)) (mvT hZ (own_hw hw 135)) (mvT hZ (own_hw hw 136)) (by decide) (backOf (W := 0) (rm23 l Z a0 hw [] r_189 em h189 n0 (by omega) g189_6 c195) hZ (own_hw hw 137) (own_hw hw 80) (by decide) (by decide)) q194a q194b q194c (g := (mkF m 399 #[oi p0, oi p1, oi p2, oi p3, oi 2, oi u5, oi u6, oi u7, oi u8, oR a1_1, oR a1_2, oR b4, oi u12, oi u13, oi u14, oi n15, oR w16, oR w17, oR b19, oR rp_189, oR r_189, .unset] [(.ref r_189)])) rfl hml.symm (Steps.refl _) (argsL := []) (rest := []) (lenOf pd_22 rfl) rfl (Nat.le_of_eq rfl) (hb hby at_399) (fun _ _ => ⟨rfl, eq193, (by decide : 28 + 0 ≤ _), (by decide : 218 + 0 ≤ _)⟩)
    dsimp only [Pt.U, Pt.locs, Pt.cells, Pt.slots] at X194 lq194 yq194 zq194 st194 hQ194
    subst lq194 yq194 zq194
    obtain ⟨rfl, Nq194, eq194⟩ := hQ194
    have N194 := Fr.app N193 Nq194
    refine ow (oT T194 m 404 #[oi p0, oi p1, oi p2, oi p3, oi 2, oi u5, oi u6, oi u7, oi u8, oR a1_1, oR a1_2, oR b4, oi u12, oi u13, oi u14, oi n15, oR w16, oR w17, oR b19, oR rp_189, oR r_189, .unset] [(.int (1 : Int32))]) (fun _ k => st194.trans k) ?_
    refine ow (oT T194 m 405 #[oi p0, oi p1, oi p2, oi p3, oi 2, oi u5, oi u6, oi u7, oi u8, oR a1_1, oR a1_2, oR b4, oi u12, oi u13, oi u14, oi n15, oR w16, oR w17, oR b19, oR rp_189, oR r_189, .unset] [(.int (1 : Int32)), (.int (1 : Int32))]) (fun _ k => XS.iconst X194.here hx rfl (hb hby at_404) k) ?_
    have hc196 : (1 : Int32) = (1 : Int32) := by decide
    refine ow (oT T194 m 408 #[oi p0, oi p1, oi p2, oi p3, oi 2, oi u5, oi u6, oi u7, oi u8, oR a1_1, oR a1_2, oR b4, oi u12, oi u13, oi u14, oi n15, oR w16, oR w17, oR b19, oR rp_189, oR r_189, .unset] []) (fun _ k => XS.icmpNo X194.here hx rfl (hb hby at_405) rfl (teq hc196).2 k) ?_
    refine ow (oT T194 m 410 #[oi p0, oi p1, oi p2, oi p3, oi 2, oi u5, oi u6, oi u7, oi u8, oR a1_1, oR a1_2, oR b4, oi u12, oi u13, oi u14, oi n15, oR w16, oR w17, oR b19, oR rp_189, oR r_189, .unset] [(.ref r_189)]) (fun _ k => XS.aload X194.here hx rfl (hb hby at_408) rfl rfl k) ?_
    refine ow (oT T194 m 411 #[oi p0, oi p1, oi p2, oi p3, oi 2, oi u5, oi u6, oi u7, oi u8, oR a1_1, oR a1_2, oR b4, oi u12, oi u13, oi u14, oi n15, oR w16, oR w17, oR b19, oR rp_189, oR r_189, .unset] [(.int (0 : Int32)), (.ref r_189)]) (fun _ k => XS.iconst X194.here hx rfl (hb hby at_410) k) ?_
    obtain ⟨cq197, kq197, q197a, q197b, q197c⟩ := isOf hZ eq194 g189_4
    obtain ⟨_, _, ⟨T197, LC197, kC197, nC197⟩, -, X197, ⟨Lc197, hQ197, lq197, yq197, zq197⟩, st197⟩ := X194.interfaceBack hx (xi := oM12) (y := oM21) hown (mvT hZ (own_hw hw 138)) (mvT hZ (own_hw hw 139)) (mvT hZ (own_hw hw 140)) (mvT hZ (own_hw hw 141)) (mvT hZ (own_hw hw 142)) (mvT hZ (own_hw hw 143)) (mvT hZ (own_hw hw 144)) (mvT hZ (own_hw hw 136)) (by decide) (backOf (W := 0) (rm24 l Z a0 hw [] r_189 w16 h189 n0 (by omega) g189_5) hZ (own_hw hw 145) (own_hw hw 80) (by decide) (by decide)) q197a q197b q197c (g := (mkF m 411 #[oi p0, oi p1, oi p2, oi p3, oi 2, oi u5, oi u6, oi u7, oi u8, oR a1_1, oR a1_2, oR b4, oi u12, oi u13, oi u14, oi n15, oR w16, oR w17, oR b19, oR rp_189, oR r_189, .unset] [(.int (0 : Int32)), (.ref r_189)])) rfl hml.symm (Steps.refl _) (argsL := [(.int (0 : Int32))]) (rest := []) (lenOf pd_14 rfl) rfl (Nat.le_of_eq rfl) (hb hby at_411) (fun _ _ => ⟨rfl, eq194, (by decide : 28 + 0 ≤ _), (by decide : 218 + 0 ≤ _)⟩)
    dsimp only [Pt.U, Pt.locs, Pt.cells, Pt.slots] at X197 lq197 yq197 zq197 st197 hQ197
    subst lq197 yq197 zq197
    obtain ⟨rfl, Nq197, eq197⟩ := hQ197
    have N197 := Fr.app N194 Nq197
    refine ow (oT T197 m 416 #[oi p0, oi p1, oi p2, oi p3, oi 2, oi u5, oi u6, oi u7, oi u8, oR a1_1, oR a1_2, oR b4, oi u12, oi u13, oi u14, oi n15, oR w16, oR w17, oR b19, oR rp_189, oR r_189, .unset] [(.ref w16)]) (fun _ k => st197.trans k) ?_
    have c199 : Exa Z h189 w16 oS0 := (((((fj18_16.ext E19).keep K23).keep K181).keep K186).keep K189)
    obtain ⟨T198, X198, e198, st198⟩ := castY X197 hx hZ hown (own_hw hw 26) eq197 (Ins.self c199) (g := (mkF m 416 #[oi p0, oi p1, oi p2, oi p3, oi 2, oi u5, oi u6, oi u7, oi u8, oR a1_1, oR a1_2, oR b4, oi u12, oi u13, oi u14, oi n15, oR w16, oR w17, oR b19, oR rp_189, oR r_189, .unset] [(.ref w16)])) rfl rfl (hb hby at_416)
    refine ow (oT T198 m 419 #[oi p0, oi p1, oi p2, oi p3, oi 2, oi u5, oi u6, oi u7, oi u8, oR a1_1, oR a1_2, oR b4, oi u12, oi u13, oi u14, oi n15, oR w16, oR w17, oR b19, oR rp_189, oR r_189, .unset] [(.ref w16)]) (st198) ?_
    refine ow (oT T198 m 421 #[oi p0, oi p1, oi p2, oi p3, oi 2, oi u5, oi u6, oi u7, oi u8, oR a1_1, oR a1_2, oR b4, oi u12, oi u13, oi u14, oi n15, oR w16, oR w17, oR b19, oR rp_189, oR r_189, .unset] [(.ref w17), (.ref w16)]) (fun _ k => XS.aload X198.here hx rfl (hb hby at_419) rfl rfl k) ?_
    have c201 : Sta Z h189 oS0 oS4 "Z" (.int zc) := (own_sta_keep (own_sta_keep (own_sta_keep (own_sta_keep (fj18_0.ext E19) K23 (allS (P := fun x => ∀ c : Cell, h19[x]? = some c → c.vm.isStatics = false) (own_pl_exa A19) all0)) K181 (allS (P := fun x => ∀ c : Cell, h23[x]? = some c → c.vm.isStatics = false) (own_pl_exa g23_0) all0)) K186 (allS (P := fun x => ∀ c : Cell, h181[x]? = some c → c.vm.isStatics = false) (own_pl_exa g181_0) (allS (P := fun x => ∀ c : Cell, h181[x]? = some c → c.vm.isStatics = false) (own_pl_arv g181_4) all0))) K189 all0)
    have c202 : Fld Z h189 w16 oS0 "value" "[B" (.ref r16) := (((((fj18_17.ext E19).keep K23 (ninS (own_ne (by omega)) nin0)).keep K181 (ninS (own_ne (by omega)) nin0)).keep K186 (ninS (own_ne (by omega)) (ninS (own_ne (by omega)) nin0))).keep K189 nin0)
    have c203 : Fld Z h189 w16 oS0 "coder" "B" (.int (0 : Int32)) := (((((fj18_18.ext E19).keep K23 (ninS (own_ne (by omega)) nin0)).keep K181 (ninS (own_ne (by omega)) nin0)).keep K186 (ninS (own_ne (by omega)) (ninS (own_ne (by omega)) nin0))).keep K189 nin0)
    have c204 : Exa Z h189 w17 oS0 := (((((fj18_20.ext E19).keep K23).keep K181).keep K186).keep K189)
    have c205 : Fld Z h189 w17 oS0 "value" "[B" (.ref r17) := (((((fj18_21.ext E19).keep K23 (ninS (own_ne (by omega)) nin0)).keep K181 (ninS (own_ne (by omega)) nin0)).keep K186 (ninS (own_ne (by omega)) (ninS (own_ne (by omega)) nin0))).keep K189 nin0)
    have c206 : Fld Z h189 w17 oS0 "coder" "B" (.int (0 : Int32)) := (((((fj18_22.ext E19).keep K23 (ninS (own_ne (by omega)) nin0)).keep K181 (ninS (own_ne (by omega)) nin0)).keep K186 (ninS (own_ne (by omega)) (ninS (own_ne (by omega)) nin0))).keep K189 nin0)
    have c207 : Arv Z h189 r16 k16 .byte n15 (own_bs n15 u12 u13 u14) (.int (0 : Int32)) := (((((fj18_19.ext E19).keep K23 (ninS (own_ne (by omega)) nin0)).keep K181 (ninS (own_ne (by omega)) nin0)).keep K186 (ninS (own_ne (by omega)) (ninS (own_ne (by omega)) nin0))).keep K189 nin0)
    have c208 : Arv Z h189 r17 k17 .byte n15 (own_bs n15 u12 u13 u14) (.int (0 : Int32)) := (((((fj18_23.ext E19).keep K23 (ninS (own_ne (by omega)) nin0)).keep K181 (ninS (own_ne (by omega)) nin0)).keep K186 (ninS (own_ne (by omega)) (ninS (own_ne (by omega)) nin0))).keep K189 nin0)
    obtain ⟨cq200, kq200, q200a, q200b, q200c⟩ := isOf hZ e198 c199
    obtain ⟨_, _, ⟨T200, LC200, kC200, nC200⟩, -, X200, ⟨Lc200, hQ200, lq200, yq200, zq200⟩, st200⟩ := X198.virtualBack hx (y := oM1) (z := oM1) hown (mvT hZ (own_hw hw 146)) (mvT hZ (own_hw hw 147)) (notFace_of_selects (args := #[]) (mvT hZ (own_hw hw 149))) (mvT hZ (own_hw hw 149)) (mvT hZ (own_hw hw 148)) (by decide) (backOf (W := 0) (rse_gen l Z a0 hw [] w16 w17 zc r16 k16 n15 (own_bs n15 u12 u13 u14) r17 k17 h189 n0 (by omega) c201 (by assumption) (own_ne (by omega)) c199 c202 c203 c204 c205 c206 c207 c208 (own_bs_sh ht_n15)) hZ (own_hw hw 150) (own_hw hw 2) (by decide) (by decide)) q200a q200c (g := (mkF m 421 #[oi p0, oi p1, oi p2, oi p3, oi 2, oi u5, oi u6, oi u7, oi u8, oR a1_1, oR a1_2, oR b4, oi u12, oi u13, oi u14, oi n15, oR w16, oR w17, oR b19, oR rp_189, oR r_189, .unset] [(.ref w17), (.ref w16)])) rfl hml.symm (Steps.refl _) (argsL := [(.ref w17)]) (rest := []) (lenOf pd_24 rfl) rfl (Nat.le_of_eq rfl) (hb hby at_421) (fun _ _ => ⟨rfl, e198, (by decide : 28 + 0 ≤ _), (by decide : 218 + 0 ≤ _)⟩)
    dsimp only [Pt.U, Pt.locs, Pt.cells, Pt.slots] at X200 lq200 yq200 zq200 st200 hQ200
    subst lq200 yq200 zq200
    obtain ⟨rfl, Nq200, eq200⟩ := hQ200
    have N200 := Fr.app N197 Nq200
    refine ow (oT T200 m 424 #[oi p0, oi p1, oi p2, oi p3, oi 2, oi u5, oi u6, oi u7, oi u8, oR a1_1, oR a1_2, oR b4, oi u12, oi u13, oi u14, oi n15, oR w16, oR w17, oR b19, oR rp_189, oR r_189, .unset] [(.int (1 : Int32))]) (fun _ k => st200.trans k) ?_
    have hc209 : ¬ ((1 : Int32) = (0 : Int32)) := by decide
    refine ow (oT T200 m 429 #[oi p0, oi p1, oi p2, oi p3, oi 2, oi u5, oi u6, oi u7, oi u8, oR a1_1, oR a1_2, oR b4, oi u12, oi u13, oi u14, oi n15, oR w16, oR w17, oR b19, oR rp_189, oR r_189, .unset] []) (fun _ k => XS.ifYes X200.here hx rfl (pc0 := 424) (pc' := 429) rfl (hb hby at_424) rfl ((if0 _ _).trans (feq hc209).2) (by decide) (by decide) k) ?_
    refine ow (oT T200 m 431 #[oi p0, oi p1, oi p2, oi p3, oi 2, oi u5, oi u6, oi u7, oi u8, oR a1_1, oR a1_2, oR b4, oi u12, oi u13, oi u14, oi n15, oR w16, oR w17, oR b19, oR rp_189, oR r_189, .unset] [(.ref rp_189)]) (fun _ k => XS.aload X200.here hx rfl (hb hby at_429) rfl rfl k) ?_
    obtain ⟨cq210, kq210, q210a, q210b, q210c⟩ := isOf hZ eq200 g189_0
    obtain ⟨_, _, ⟨T210, LC210, kC210, nC210⟩, -, X210, ⟨Lc210, hQ210, lq210, yq210, zq210⟩, st210⟩ := X200.virtualBack hx (y := oM11) (z := oM11) hown (mvT hZ (own_hw hw 154)) (mvT hZ (own_hw hw 155)) (notFace_of_selects (args := #[]) (mvT hZ (own_hw hw 157))) (mvT hZ (own_hw hw 157)) (mvT hZ (own_hw hw 156)) (by decide) (backOf (W := 0) (rm27 l Z a0 hw [] rp_189 b19 h189 n0 (by omega) g189_2) hZ (own_hw hw 158) (own_hw hw 70) (by decide) (by decide)) q210a q210c (g := (mkF m 431 #[oi p0, oi p1, oi p2, oi p3, oi 2, oi u5, oi u6, oi u7, oi u8, oR a1_1, oR a1_2, oR b4, oi u12, oi u13, oi u14, oi n15, oR w16, oR w17, oR b19, oR rp_189, oR r_189, .unset] [(.ref rp_189)])) rfl hml.symm (Steps.refl _) (argsL := []) (rest := []) (lenOf pd_23 rfl) rfl (Nat.le_of_eq rfl) (hb hby at_431) (fun _ _ => ⟨rfl, eq200, (by decide : 28 + 0 ≤ _), (by decide : 218 + 0 ≤ _)⟩)
    dsimp only [Pt.U, Pt.locs, Pt.cells, Pt.slots] at X210 lq210 yq210 zq210 st210 hQ210
    subst lq210 yq210 zq210
    obtain ⟨rfl, Nq210, eq210⟩ := hQ210
    have N210 := Fr.app N200 Nq210
    refine ow (oT T210 m 434 #[oi p0, oi p1, oi p2, oi p3, oi 2, oi u5, oi u6, oi u7, oi u8, oR a1_1, oR a1_2, oR b4, oi u12, oi u13, oi u14, oi n15, oR w16, oR w17, oR b19, oR rp_189, oR r_189, .unset] [(.ref b19)]) (fun _ k => st210.trans k) ?_
    refine ow (oT T210 m 436 #[oi p0, oi p1, oi p2, oi p3, oi 2, oi u5, oi u6, oi u7, oi u8, oR a1_1, oR a1_2, oR b4, oi u12, oi u13, oi u14, oi n15, oR w16, oR w17, oR b19, oR rp_189, oR r_189, oR b19] []) (fun _ k => XS.astore X210.here hx rfl (hb hby at_434) rfl rfl (l' := #[oi p0, oi p1, oi p2, oi p3, oi 2, oi u5, oi u6, oi u7, oi u8, oR a1_1, oR a1_2, oR b4, oi u12, oi u13, oi u14, oi n15, oR w16, oR w17, oR b19, oR rp_189, oR r_189, oR b19]) rfl k) ?_
    refine ow (oT T210 m 438 #[oi p0, oi p1, oi p2, oi p3, oi 2, oi u5, oi u6, oi u7, oi u8, oR a1_1, oR a1_2, oR b4, oi u12, oi u13, oi u14, oi n15, oR w16, oR w17, oR b19, oR rp_189, oR r_189, oR b19] [(.ref b19)]) (fun _ k => XS.aload X210.here hx rfl (hb hby at_436) rfl rfl k) ?_
    have c212 : Fld Z h189 b19 oS1 "size" "I" (.int (2 : Int32)) := (g186_3.keep K189 nin0)
    have c213 : Exa Z h189 b19 oS1 := (g186_0.keep K189)
    obtain ⟨cq211, kq211, q211a, q211b, q211c⟩ := isOf hZ eq210 c213
    obtain ⟨_, _, ⟨T211, LC211, kC211, nC211⟩, -, X211, ⟨Lc211, hQ211, lq211, yq211, zq211⟩, st211⟩ := X210.interfaceBack hx (xi := oM17) (y := oM18) hown (mvT hZ (own_hw hw 129)) (mvT hZ (own_hw hw 130)) (mvT hZ (own_hw hw 131)) (mvT hZ (own_hw hw 159)) (mvT hZ (own_hw hw 160)) (mvT hZ (own_hw hw 161)) (mvT hZ (own_hw hw 162)) (mvT hZ (own_hw hw 163)) (by decide) (backOf (W := 0) (rm28 l Z a0 hw [] b19 (2 : Int32) h189 n0 (by omega) c212) hZ (own_hw hw 164) (own_hw hw 46) (by decide) (by decide)) q211a q211b q211c (g := (mkF m 438 #[oi p0, oi p1, oi p2, oi p3, oi 2, oi u5, oi u6, oi u7, oi u8, oR a1_1, oR a1_2, oR b4, oi u12, oi u13, oi u14, oi n15, oR w16, oR w17, oR b19, oR rp_189, oR r_189, oR b19] [(.ref b19)])) rfl hml.symm (Steps.refl _) (argsL := []) (rest := []) (lenOf pd_22 rfl) rfl (Nat.le_of_eq rfl) (hb hby at_438) (fun _ _ => ⟨rfl, eq210, (by decide : 28 + 0 ≤ _), (by decide : 218 + 0 ≤ _)⟩)
    dsimp only [Pt.U, Pt.locs, Pt.cells, Pt.slots] at X211 lq211 yq211 zq211 st211 hQ211
    subst lq211 yq211 zq211
    obtain ⟨rfl, Nq211, eq211⟩ := hQ211
    have N211 := Fr.app N210 Nq211
    refine ow (oT T211 m 443 #[oi p0, oi p1, oi p2, oi p3, oi 2, oi u5, oi u6, oi u7, oi u8, oR a1_1, oR a1_2, oR b4, oi u12, oi u13, oi u14, oi n15, oR w16, oR w17, oR b19, oR rp_189, oR r_189, oR b19] [(.int (2 : Int32))]) (fun _ k => st211.trans k) ?_
    refine ow (oT T211 m 445 #[oi p0, oi p1, oi p2, oi p3, oi 2, oi u5, oi u6, oi u7, oi u8, oR a1_1, oR a1_2, oR b4, oi u12, oi u13, oi u14, oi n15, oR w16, oR w17, oR b19, oR rp_189, oR r_189, oR b19] [(.int (2 : Int32)), (.int (2 : Int32))]) (fun _ k => XS.iload X211.here hx rfl (hb hby at_443) rfl k) ?_
    have hc214 : (2 : Int32) = (2 : Int32) := by decide
    refine ow (oT T211 m 450 #[oi p0, oi p1, oi p2, oi p3, oi 2, oi u5, oi u6, oi u7, oi u8, oR a1_1, oR a1_2, oR b4, oi u12, oi u13, oi u14, oi n15, oR w16, oR w17, oR b19, oR rp_189, oR r_189, oR b19] []) (fun _ k => XS.icmpYes X211.here hx rfl (pc0 := 445) (pc' := 450) rfl (hb hby at_445) rfl (teq hc214).1 (by decide) (by decide) k) ?_
    have KA215 : Keep h23 h189 [b19] := ((((Keep.refl h23 [b19]).trans K181 (allS (P := fun x => x ∈ [b19] ∨ h23.size ≤ x) (Or.inl (List.mem_of_getElem? (i := 0) rfl)) all0)).trans K186 (allS (P := fun x => x ∈ [b19] ∨ h23.size ≤ x) (Or.inl (List.mem_of_getElem? (i := 0) rfl)) (allS (P := fun x => x ∈ [b19] ∨ h23.size ≤ x) (Or.inr (by omega)) all0))).trans K189 all0)
    have AS215 := CHr.keep (EL := own_EL) KA215 (allS (P := fun x => Safe Z own_EL _ h23 x) (Safe.exa hZ.alike g23_0 (by decide) (by decide)) all0) AA119.1
    have AA216 := AA119.trans AS215
    have c217 : Exa Z h189 a1_1 oS0 := (((c184.keep K181).keep K186).keep K189)
    have c218 : Fld Z h189 a1_1 oS0 "value" "[B" (.ref r_1) := (((((fj18_5.ext E19).keep K23 (ninS (own_ne (by omega)) nin0)).keep K181 (ninS (own_ne (by omega)) nin0)).keep K186 (ninS (own_ne (by omega)) (ninS (own_ne (by omega)) nin0))).keep K189 nin0)
    have c219 : Fld Z h189 a1_1 oS0 "coder" "B" (.int (0 : Int32)) := (((((fj18_6.ext E19).keep K23 (ninS (own_ne (by omega)) nin0)).keep K181 (ninS (own_ne (by omega)) nin0)).keep K186 (ninS (own_ne (by omega)) (ninS (own_ne (by omega)) nin0))).keep K189 nin0)
    have c220 : Arv Z h189 r_1 kr_1 .byte (1 : Int32) [(.int (own_by u5))] (.int (0 : Int32)) := (((((fj18_7.ext E19).keep K23 (ninS (own_ne (by omega)) nin0)).keep K181 (ninS (own_ne (by omega)) nin0)).keep K186 (ninS (own_ne (by omega)) (ninS (own_ne (by omega)) nin0))).keep K189 nin0)
    have c221 : Exa Z h189 a1_2 oS0 := ((c187.keep K186).keep K189)
    have c222 : Fld Z h189 a1_2 oS0 "value" "[B" (.ref r_2) := (((((fj18_9.ext E19).keep K23 (ninS (own_ne (by omega)) nin0)).keep K181 (ninS (own_ne (by omega)) nin0)).keep K186 (ninS (own_ne (by omega)) (ninS (own_ne (by omega)) nin0))).keep K189 nin0)
    have c223 : Fld Z h189 a1_2 oS0 "coder" "B" (.int (0 : Int32)) := (((((fj18_10.ext E19).keep K23 (ninS (own_ne (by omega)) nin0)).keep K181 (ninS (own_ne (by omega)) nin0)).keep K186 (ninS (own_ne (by omega)) (ninS (own_ne (by omega)) nin0))).keep K189 nin0)
    have c224 : Arv Z h189 r_2 kr_2 .byte (1 : Int32) [(.int (own_by u6))] (.int (0 : Int32)) := (((((fj18_11.ext E19).keep K23 (ninS (own_ne (by omega)) nin0)).keep K181 (ninS (own_ne (by omega)) nin0)).keep K186 (ninS (own_ne (by omega)) (ninS (own_ne (by omega)) nin0))).keep K189 nin0)
    have c225 : Exa Z h189 b4 oS0 := (((((fj18_12.ext E19).keep K23).keep K181).keep K186).keep K189)
    have c226 : Fld Z h189 b4 oS0 "value" "[B" (.ref r_11) := (((((fj18_13.ext E19).keep K23 (ninS (own_ne (by omega)) nin0)).keep K181 (ninS (own_ne (by omega)) nin0)).keep K186 (ninS (own_ne (by omega)) (ninS (own_ne (by omega)) nin0))).keep K189 nin0)
    have c227 : Fld Z h189 b4 oS0 "coder" "B" (.int (0 : Int32)) := (((((fj18_14.ext E19).keep K23 (ninS (own_ne (by omega)) nin0)).keep K181 (ninS (own_ne (by omega)) nin0)).keep K186 (ninS (own_ne (by omega)) (ninS (own_ne (by omega)) nin0))).keep K189 nin0)
    have c228 : Arv Z h189 r_11 kr_11 .byte (2 : Int32) [(.int (own_by u7)), (.int (own_by u8))] (.int (0 : Int32)) := (((((fj18_15.ext E19).keep K23 (ninS (own_ne (by omega)) nin0)).keep K181 (ninS (own_ne (by omega)) nin0)).keep K186 (ninS (own_ne (by omega)) (ninS (own_ne (by omega)) nin0))).keep K189 nin0)
    have c229 : Fld Z h189 b19 oS1 "elementData" oS3 (.ref ea_181) := (g186_2.keep K189 nin0)
    have c230 : Arv Z h189 ea_181 ke_181 (.object oS2) (10 : Int32) [(.ref a1_1), (.ref a1_2), .null, .null, .null, .null, .null, .null, .null, .null] .null := (g186_4.keep K189 nin0)
    exact J450_144 _ _ _ ea_181 ke_181 rp_189 r_189 _ _ (own_widen X211 (by decide) (by decide)) eq211 N211 hSj18 (by omega) hZ hown AA216 (by omega) c217 c218 c219 c220 c221 c222 c223 c224 c225 c226 c227 c228 c201 c213 c229 c212 c230
   ·
    have KA231 : Keep hj18 h23 [] := (((Keep.refl hj18 []).ext E19).trans K23 (allS (P := fun x => x ∈ [] ∨ hj18.size ≤ x) (Or.inr (by omega)) all0))
    have AS231 := CHr.keep (EL := own_EL) KA231 all0 Aj18.1
    have AA232 := Aj18.trans AS231
    have J529_233 : ∀ (Tj233 : State) (lj233 : List Loc) (hj233 : Heap) (ea : Addr) (ke : ClassId) (rp : Addr) (er : Addr) (vj233 : Vm) (kj233 : Nat) (Xj233 : Stand p l e room_1 (s.setVm vj233) m #[(.int p0), (.int p1), (.int p2), (.int p3)] below meth c Tj233 lj233 50 360) (ej233 : Tj233.heap = hj233) (Nj233 : Fr n0 lj233) (hSj233 : s.Since vj233 kj233) (hkj233 : kj233 ≤ hj233.size) (hZj233 : Z.Warmed39 (s.setVm vj233).vm) (hoj233 : (s.setVm vj233).vm.findClass oS14 = some m.cls) (Aj233 : CHr Z own_EL s.vm h0 vj233 hj233)  (szj233 : h23.size ≤ hj233.size) (fj233_0 : Exa Z hj233 a1_1 oS0) (fj233_1 : Fld Z hj233 a1_1 oS0 "value" "[B" (.ref r_1)) (fj233_2 : Fld Z hj233 a1_1 oS0 "coder" "B" (.int (0 : Int32))) (fj233_3 : Arv Z hj233 r_1 kr_1 .byte (1 : Int32) [(.int (own_by u5))] (.int (0 : Int32))) (fj233_4 : Exa Z hj233 a1_2 oS0) (fj233_5 : Fld Z hj233 a1_2 oS0 "value" "[B" (.ref r_2)) (fj233_6 : Fld Z hj233 a1_2 oS0 "coder" "B" (.int (0 : Int32))) (fj233_7 : Arv Z hj233 r_2 kr_2 .byte (1 : Int32) [(.int (own_by u6))] (.int (0 : Int32))) (fj233_8 : Exa Z hj233 b4 oS0) (fj233_9 : Fld Z hj233 b4 oS0 "value" "[B" (.ref r_11)) (fj233_10 : Fld Z hj233 b4 oS0 "coder" "B" (.int (0 : Int32))) (fj233_11 : Arv Z hj233 r_11 kr_11 .byte (2 : Int32) [(.int (own_by u7)), (.int (own_by u8))] (.int (0 : Int32))) (fj233_12 : Sta Z hj233 oS0 oS4 "Z" (.int zc)) (fj233_13 : Exa Z hj233 b19 oS1) (fj233_14 : Fld Z hj233 b19 oS1 "elementData" oS3 (.ref ea)) (fj233_15 : Fld Z hj233 b19 oS1 "size" "I" (.int (3 : Int32))) (fj233_16 : Arv Z hj233 ea ke (.object oS2) (10 : Int32) [(.ref a1_1), (.ref a1_2), (.ref b4), .null, .null, .null, .null, .null, .null, .null] .null), own_Go p.tables e below P (Tj233.setTop (mkF m 529 #[oi p0, oi p1, oi p2, oi p3, oi 3, oi u5, oi u6, oi u7, oi u8, oR a1_1, oR a1_2, oR b4, oi u12, oi u13, oi u14, oi n15, oR w16, oR w17, oR b19, oR rp, oR er, oR b19] [])) := by
     intro Tj233 lj233 hj233 ea ke rp er vj233 kj233 Xj233 ej233 Nj233 hSj233 hkj233 hZ hown Aj233 szj233 fj233_0 fj233_1 fj233_2 fj233_3 fj233_4 fj233_5 fj233_6 fj233_7 fj233_8 fj233_9 fj233_10 fj233_11 fj233_12 fj233_13 fj233_14 fj233_15 fj233_16
     have ltj233_0 : @LT.lt Nat _ a1_1 hj233.size := fj233_0.lt
     have ltj233_3 : @LT.lt Nat _ r_1 hj233.size := fj233_3.lt
     have ltj233_4 : @LT.lt Nat _ a1_2 hj233.size := fj233_4.lt
     have ltj233_7 : @LT.lt Nat _ r_2 hj233.size := fj233_7.lt
     have ltj233_8 : @LT.lt Nat _ b4 hj233.size := fj233_8.lt
     have ltj233_11 : @LT.lt Nat _ r_11 hj233.size := fj233_11.lt
     have ltj233_13 : @LT.lt Nat _ b19 hj233.size := fj233_13.lt
     have ltj233_16 : @LT.lt Nat _ ea hj233.size := fj233_16.lt
     refine ow (oT Tj233 m 531 #[oi p0, oi p1, oi p2, oi p3, oi 3, oi u5, oi u6, oi u7, oi u8, oR a1_1, oR a1_2, oR b4, oi u12, oi u13, oi u14, oi n15, oR w16, oR w17, oR b19, oR rp, oR er, oR b19] [(.int (3 : Int32))]) (fun _ k => XS.iload Xj233.here hx rfl (hb hby at_529) rfl k) ?_
     refine ow (oT Tj233 m 532 #[oi p0, oi p1, oi p2, oi p3, oi 3, oi u5, oi u6, oi u7, oi u8, oR a1_1, oR a1_2, oR b4, oi u12, oi u13, oi u14, oi n15, oR w16, oR w17, oR b19, oR rp, oR er, oR b19] [(.int (2 : Int32)), (.int (3 : Int32))]) (fun _ k => XS.iconst Xj233.here hx rfl (hb hby at_531) k) ?_
     have hc234 : (2 : Int32) < (3 : Int32) := by decide
     refine ow (oT Tj233 m 535 #[oi p0, oi p1, oi p2, oi p3, oi 3, oi u5, oi u6, oi u7, oi u8, oR a1_1, oR a1_2, oR b4, oi u12, oi u13, oi u14, oi n15, oR w16, oR w17, oR b19, oR rp, oR er, oR b19] []) (fun _ k => XS.icmpNo Xj233.here hx rfl (hb hby at_532) rfl (tlt hc234).2.2.2 k) ?_
     refine ow (oT Tj233 m 537 #[oi p0, oi p1, oi p2, oi p3, oi 3, oi u5, oi u6, oi u7, oi u8, oR a1_1, oR a1_2, oR b4, oi u12, oi u13, oi u14, oi n15, oR w16, oR w17, oR b19, oR rp, oR er, oR b19] [(.ref b19)]) (fun _ k => XS.aload Xj233.here hx rfl (hb hby at_535) rfl rfl k) ?_
     refine ow (oT Tj233 m 538 #[oi p0, oi p1, oi p2, oi p3, oi 3, oi u5, oi u6, oi u7, oi u8, oR a1_1, oR a1_2, oR b4, oi u12, oi u13, oi u14, oi n15, oR w16, oR w17, oR b19, oR rp, oR er, oR b19] [(.int (2 : Int32)), (.ref b19)]) (fun _ k => XS.iconst Xj233.here hx rfl (hb hby at_537) k) ?_
     obtain ⟨cq235, kq235, q235a, q235b, q235c⟩ := isOf hZ ej233 fj233_13
     obtain ⟨_, _, ⟨T235, LC235, kC235, nC235⟩, -, X235, ⟨Lc235, hQ235, lq235, yq235, zq235⟩, st235⟩ := Xj233.interfaceBack hx (xi := oM12) (y := oM5) hown (mvT hZ (own_hw hw 138)) (mvT hZ (own_hw hw 139)) (mvT hZ (own_hw hw 140)) (mvT hZ (own_hw hw 199)) (mvT hZ (own_hw hw 200)) (mvT hZ (own_hw hw 201)) (mvT hZ (own_hw hw 202)) (mvT hZ (own_hw hw 163)) (by decide) (backOf (W := 0) (rge_23 l Z a0 hw [] b19 ea ke (.ref a1_1) (.ref a1_2) (.ref b4) hj233 n0 (by omega) fj233_13 fj233_15 fj233_14 fj233_16 rfl) hZ (own_hw hw 203) (own_hw hw 46) (by decide) (by decide)) q235a q235b q235c (g := (mkF m 538 #[oi p0, oi p1, oi p2, oi p3, oi 3, oi u5, oi u6, oi u7, oi u8, oR a1_1, oR a1_2, oR b4, oi u12, oi u13, oi u14, oi n15, oR w16, oR w17, oR b19, oR rp, oR er, oR b19] [(.int (2 : Int32)), (.ref b19)])) rfl hml.symm (Steps.refl _) (argsL := [(.int (2 : Int32))]) (rest := []) (lenOf pd_14 rfl) rfl (Nat.le_of_eq rfl) (hb hby at_538) (fun _ _ => ⟨rfl, ej233, (by decide : 50 + 0 ≤ _), (by decide : 360 + 0 ≤ _)⟩)
     dsimp only [Pt.U, Pt.locs, Pt.cells, Pt.slots] at X235 lq235 yq235 zq235 st235 hQ235
     subst lq235 yq235 zq235
     obtain ⟨rfl, Nq235, eq235⟩ := hQ235
     have N235 := Fr.app Nj233 Nq235
     refine ow (oT T235 m 543 #[oi p0, oi p1, oi p2, oi p3, oi 3, oi u5, oi u6, oi u7, oi u8, oR a1_1, oR a1_2, oR b4, oi u12, oi u13, oi u14, oi n15, oR w16, oR w17, oR b19, oR rp, oR er, oR b19] [(.ref b4)]) (fun _ k => st235.trans k) ?_
     obtain ⟨T236, X236, e236, st236⟩ := castY X235 hx hZ hown (own_hw hw 26) eq235 (Ins.self fj233_8) (g := (mkF m 543 #[oi p0, oi p1, oi p2, oi p3, oi 3, oi u5, oi u6, oi u7, oi u8, oR a1_1, oR a1_2, oR b4, oi u12, oi u13, oi u14, oi n15, oR w16, oR w17, oR b19, oR rp, oR er, oR b19] [(.ref b4)])) rfl rfl (hb hby at_543)
     refine ow (oT T236 m 546 #[oi p0, oi p1, oi p2, oi p3, oi 3, oi u5, oi u6, oi u7, oi u8, oR a1_1, oR a1_2, oR b4, oi u12, oi u13, oi u14, oi n15, oR w16, oR w17, oR b19, oR rp, oR er, oR b19] [(.ref b4)]) (st236) ?_
     obtain ⟨T237, h237, X237, e237, E237, A237, D237, -, st237⟩ := newO X236 hx hZ hown (own_hw hw 26) (own_hw hw 10) (own_hw hw 2) e236 (g := (mkF m 546 #[oi p0, oi p1, oi p2, oi p3, oi 3, oi u5, oi u6, oi u7, oi u8, oR a1_1, oR a1_2, oR b4, oi u12, oi u13, oi u14, oi n15, oR w16, oR w17, oR b19, oR rp, oR er, oR b19] [(.ref b4)])) rfl (hb hby at_546) (by decide) (by decide)
     obtain ⟨b237, g237⟩ : ∃ z, z = hj233.size := ⟨_, rfl⟩
     rw [← g237] at A237 D237 st237
     have sz237 : hj233.size ≤ h237.size := E237.1
     have lt237 : @LT.lt Nat _ b237 h237.size := A237.lt
     have f238 : Fld Z h237 b237 oS0 "value" "[B" .null := D237 (Or.inr (own_hw hw 23)) (ty := (.array .byte)) (by decide)
     have f239 : Fld Z h237 b237 oS0 "coder" "B" (.int (0 : Int32)) := D237 (Or.inr (own_hw hw 25)) (ty := .byte) (by decide)
     refine ow (oT T237 m 549 #[oi p0, oi p1, oi p2, oi p3, oi 3, oi u5, oi u6, oi u7, oi u8, oR a1_1, oR a1_2, oR b4, oi u12, oi u13, oi u14, oi n15, oR w16, oR w17, oR b19, oR rp, oR er, oR b19] [(.ref b237), (.ref b4)]) (st237) ?_
     refine ow (oT T237 m 550 #[oi p0, oi p1, oi p2, oi p3, oi 3, oi u5, oi u6, oi u7, oi u8, oR a1_1, oR a1_2, oR b4, oi u12, oi u13, oi u14, oi n15, oR w16, oR w17, oR b19, oR rp, oR er, oR b19] [(.ref b237), (.ref b237), (.ref b4)]) (fun _ k => XS.dup X237.here hx rfl (hb hby at_549) rfl rfl k) ?_
     refine ow (oT T237 m 551 #[oi p0, oi p1, oi p2, oi p3, oi 3, oi u5, oi u6, oi u7, oi u8, oR a1_1, oR a1_2, oR b4, oi u12, oi u13, oi u14, oi n15, oR w16, oR w17, oR b19, oR rp, oR er, oR b19] [(.int (2 : Int32)), (.ref b237), (.ref b237), (.ref b4)]) (fun _ k => XS.iconst X237.here hx rfl (hb hby at_550) k) ?_
     obtain ⟨T240, h240, k240, X240, e240, E240, A240, st240⟩ := newP X237 hx hZ (own_hw hw 27) e237 (g := (mkF m 551 #[oi p0, oi p1, oi p2, oi p3, oi 3, oi u5, oi u6, oi u7, oi u8, oR a1_1, oR a1_2, oR b4, oi u12, oi u13, oi u14, oi n15, oR w16, oR w17, oR b19, oR rp, oR er, oR b19] [(.int (2 : Int32)), (.ref b237), (.ref b237), (.ref b4)])) rfl (hb hby at_551) rfl (by decide) (cap := 2) (by decide) (by decide) (by decide) (by decide)
     obtain ⟨b240, g240⟩ : ∃ z, z = h237.size := ⟨_, rfl⟩
     rw [← g240] at A240 st240
     have sz240 : h237.size ≤ h240.size := E240.1
     have lt240 : @LT.lt Nat _ b240 h240.size := A240.lt
     have v240 : Arv Z h240 b240 k240 .char (2 : Int32) [(.int (0 : Int32)), (.int (0 : Int32))] (.int (0 : Int32)) := (Arv.new A240 (by decide)).pad (pad_rep [] (.int (0 : Int32)) 2)
     refine ow (oT T240 m 553 #[oi p0, oi p1, oi p2, oi p3, oi 3, oi u5, oi u6, oi u7, oi u8, oR a1_1, oR a1_2, oR b4, oi u12, oi u13, oi u14, oi n15, oR w16, oR w17, oR b19, oR rp, oR er, oR b19] [(.ref b240), (.ref b237), (.ref b237), (.ref b4)]) (st240) ?_
     refine ow (oT T240 m 554 #[oi p0, oi p1, oi p2, oi p3, oi 3, oi u5, oi u6, oi u7, oi u8, oR a1_1, oR a1_2, oR b4, oi u12, oi u13, oi u14, oi n15, oR w16, oR w17, oR b19, oR rp, oR er, oR b19] [(.ref b240), (.ref b240), (.ref b237), (.ref b237), (.ref b4)]) (fun _ k => XS.dup X240.here hx rfl (hb hby at_553) rfl rfl k) ?_
     refine ow (oT T240 m 555 #[oi p0, oi p1, oi p2, oi p3, oi 3, oi u5, oi u6, oi u7, oi u8, oR a1_1, oR a1_2, oR b4, oi u12, oi u13, oi u14, oi n15, oR w16, oR w17, oR b19, oR rp, oR er, oR b19] [(.int (0 : Int32)), (.ref b240), (.ref b240), (.ref b237), (.ref b237), (.ref b4)]) (fun _ k => XS.iconst X240.here hx rfl (hb hby at_554) k) ?_
     refine ow (oT T240 m 557 #[oi p0, oi p1, oi p2, oi p3, oi 3, oi u5, oi u6, oi u7, oi u8, oR a1_1, oR a1_2, oR b4, oi u12, oi u13, oi u14, oi n15, oR w16, oR w17, oR b19, oR rp, oR er, oR b19] [(.int u7), (.int (0 : Int32)), (.ref b240), (.ref b240), (.ref b237), (.ref b237), (.ref b4)]) (fun _ k => XS.iload X240.here hx rfl (hb hby at_555) rfl k) ?_
     obtain ⟨cl241, Ar241, qc241, S241, M241, H241, G241⟩ := id v240
     have hin241 : ¬ ((0 : Int32) < 0 ∨ cl241.slots.size ≤ ((0 : Int32)).toNatClampNeg) := (inb_of S241 ⟨by decide, by decide⟩)
     obtain ⟨T241, h241, X241, e241, W241, st241⟩ := stC X240 hx hZ e240 Ar241 (j := (0 : Int32)) hin241 (g := (mkF m 557 #[oi p0, oi p1, oi p2, oi p3, oi 3, oi u5, oi u6, oi u7, oi u8, oR a1_1, oR a1_2, oR b4, oi u12, oi u13, oi u14, oi n15, oR w16, oR w17, oR b19, oR rp, oR er, oR b19] [(.int u7), (.int (0 : Int32)), (.ref b240), (.ref b240), (.ref b237), (.ref b237), (.ref b4)])) rfl rfl (hb hby at_557)
     have sz241 : h241.size = h240.size := W241.size
     have N241 := Fr.snoc X241 N235 (by omega)
     have v241 : Arv Z h241 b240 k240 .char (2 : Int32) [(.int (nar .char u7)), (.int (0 : Int32))] (.int (0 : Int32)) := Arv.set Ar241 qc241 S241 M241 H241 G241 (fits_nar_char _) W241 0 rfl (Nat.le_of_ble_eq_true rfl)
     refine ow (oT T241 m 558 #[oi p0, oi p1, oi p2, oi p3, oi 3, oi u5, oi u6, oi u7, oi u8, oR a1_1, oR a1_2, oR b4, oi u12, oi u13, oi u14, oi n15, oR w16, oR w17, oR b19, oR rp, oR er, oR b19] [(.ref b240), (.ref b237), (.ref b237), (.ref b4)]) (st241) ?_
     refine ow (oT T241 m 559 #[oi p0, oi p1, oi p2, oi p3, oi 3, oi u5, oi u6, oi u7, oi u8, oR a1_1, oR a1_2, oR b4, oi u12, oi u13, oi u14, oi n15, oR w16, oR w17, oR b19, oR rp, oR er, oR b19] [(.ref b240), (.ref b240), (.ref b237), (.ref b237), (.ref b4)]) (fun _ k => XS.dup X241.here hx rfl (hb hby at_558) rfl rfl k) ?_
     refine ow (oT T241 m 560 #[oi p0, oi p1, oi p2, oi p3, oi 3, oi u5, oi u6, oi u7, oi u8, oR a1_1, oR a1_2, oR b4, oi u12, oi u13, oi u14, oi n15, oR w16, oR w17, oR b19, oR rp, oR er, oR b19] [(.int (1 : Int32)), (.ref b240), (.ref b240), (.ref b237), (.ref b237), (.ref b4)]) (fun _ k => XS.iconst X241.here hx rfl (hb hby at_559) k) ?_
     refine ow (oT T241 m 562 #[oi p0, oi p1, oi p2, oi p3, oi 3, oi u5, oi u6, oi u7, oi u8, oR a1_1, oR a1_2, oR b4, oi u12, oi u13, oi u14, oi n15, oR w16, oR w17, oR b19, oR rp, oR er, oR b19] [(.int u8), (.int (1 : Int32)), (.ref b240), (.ref b240), (.ref b237), (.ref b237), (.ref b4)]) (fun _ k => XS.iload X241.here hx rfl (hb hby at_560) rfl k) ?_
     obtain ⟨cl242, Ar242, qc242, S242, M242, H242, G242⟩ := id v241
     have hin242 : ¬ ((1 : Int32) < 0 ∨ cl242.slots.size ≤ ((1 : Int32)).toNatClampNeg) := (inb_of S242 ⟨by decide, by decide⟩)
     obtain ⟨T242, h242, X242, e242, W242, st242⟩ := stC X241 hx hZ e241 Ar242 (j := (1 : Int32)) hin242 (g := (mkF m 562 #[oi p0, oi p1, oi p2, oi p3, oi 3, oi u5, oi u6, oi u7, oi u8, oR a1_1, oR a1_2, oR b4, oi u12, oi u13, oi u14, oi n15, oR w16, oR w17, oR b19, oR rp, oR er, oR b19] [(.int u8), (.int (1 : Int32)), (.ref b240), (.ref b240), (.ref b237), (.ref b237), (.ref b4)])) rfl rfl (hb hby at_562)
     have sz242 : h242.size = h241.size := W242.size
     have N242 := Fr.snoc X242 N241 (by omega)
     have v242 : Arv Z h242 b240 k240 .char (2 : Int32) [(.int (nar .char u7)), (.int (nar .char u8))] (.int (0 : Int32)) := Arv.set Ar242 qc242 S242 M242 H242 G242 (fits_nar_char _) W242 1 rfl (Nat.le_of_ble_eq_true rfl)
     refine ow (oT T242 m 563 #[oi p0, oi p1, oi p2, oi p3, oi 3, oi u5, oi u6, oi u7, oi u8, oR a1_1, oR a1_2, oR b4, oi u12, oi u13, oi u14, oi n15, oR w16, oR w17, oR b19, oR rp, oR er, oR b19] [(.ref b240), (.ref b237), (.ref b237), (.ref b4)]) (st242) ?_
     have v243 : Arv Z h242 b240 k240 .char (2 : Int32) [(.int u7), (.int u8)] (.int (0 : Int32)) := by have q_ := v242; rw [own_lat_ch hl_u7, own_lat_ch hl_u8] at q_; exact q_
     have c245 : Exa Z h242 b237 oS0 := (((A237.ext E240).wr W241).wr W242)
     have c246 : Fld Z h242 b237 oS0 "value" "[B" .null := (((f238.ext E240).other W241 (Or.inl (own_ne (by omega)))).other W242 (Or.inl (own_ne (by omega))))
     have c247 : Fld Z h242 b237 oS0 "coder" "B" (.int (0 : Int32)) := (((f239.ext E240).other W241 (Or.inl (own_ne (by omega)))).other W242 (Or.inl (own_ne (by omega))))
     have c248 : Sta Z h242 oS0 oS4 "Z" (.int zc) := ((((fj233_12.ext E237).ext E240).wr W241).wr W242)
     obtain ⟨_, _, ⟨T244, LC244, kC244, nC244⟩, -, X244, ⟨Lc244, hQ244, lq244, yq244, zq244⟩, st244⟩ := X242.specialBack hx (y := oM0) rfl hown (mvT hZ (own_hw hw 28)) (mvT hZ (own_hw hw 29)) (mvT hZ (own_hw hw 30)) (by decide) (backOf (W := 2) (rsc_2 l Z a0 hw [] b237 b240 k240 zc u7 u8 h242 n0 (by omega) c245 c246 c247 v243 c248 (by assumption) hl_u7 hl_u8 (by omega) (own_ne (by omega))) hZ (own_hw hw 30) (own_hw hw 2) (by decide) (by decide)) (g := (mkF m 563 #[oi p0, oi p1, oi p2, oi p3, oi 3, oi u5, oi u6, oi u7, oi u8, oR a1_1, oR a1_2, oR b4, oi u12, oi u13, oi u14, oi n15, oR w16, oR w17, oR b19, oR rp, oR er, oR b19] [(.ref b240), (.ref b237), (.ref b237), (.ref b4)])) rfl hml.symm (Steps.refl _) (a := b237) (argsL := [(.ref b240)]) (rest := [(.ref b237), (.ref b4)]) (lenOf pd_20 rfl) rfl (Nat.le_of_eq rfl) (hb hby at_563) (fun _ _ => ⟨rfl, e242, (by decide : 52 + 1 ≤ _), (by decide : 366 + 2 ≤ _)⟩)
     dsimp only [Pt.U, Pt.locs, Pt.cells, Pt.slots] at X244 lq244 yq244 zq244 st244 hQ244
     subst lq244 yq244 zq244
     obtain ⟨h244, e244⟩ : ∃ z, T244.heap = z := ⟨_, rfl⟩
     rw [e244] at hQ244
     obtain ⟨r_244, kr_244, rfl, Nq244, K244, g244_0, g244_1, g244_2, g244_3, g244_4⟩ := hQ244
     have sz244 : h242.size ≤ h244.size := K244.1
     have N244 := Fr.app N242 Nq244
     have lt244_1 : @LT.lt Nat _ b237 h244.size := g244_0.lt
     have lt244_2 : @LT.lt Nat _ r_244 h244.size := g244_3.lt
     refine ow (oT T244 m 566 #[oi p0, oi p1, oi p2, oi p3, oi 3, oi u5, oi u6, oi u7, oi u8, oR a1_1, oR a1_2, oR b4, oi u12, oi u13, oi u14, oi n15, oR w16, oR w17, oR b19, oR rp, oR er, oR b19] [(.ref b237), (.ref b4)]) (fun _ k => st244.trans k) ?_
     have c250 : Sta Z h244 oS0 oS4 "Z" (.int zc) := (own_sta_keep c248 K244 (allS (P := fun x => ∀ c : Cell, h242[x]? = some c → c.vm.isStatics = false) (own_pl_exa c245) all0))
     have c251 : Exa Z h244 b4 oS0 := (((((fj233_8.ext E237).ext E240).wr W241).wr W242).keep K244)
     have c252 : Fld Z h244 b4 oS0 "value" "[B" (.ref r_11) := (((((fj233_9.ext E237).ext E240).other W241 (Or.inl (own_ne (by omega)))).other W242 (Or.inl (own_ne (by omega)))).keep K244 (ninS (own_ne (by omega)) nin0))
     have c253 : Fld Z h244 b4 oS0 "coder" "B" (.int (0 : Int32)) := (((((fj233_10.ext E237).ext E240).other W241 (Or.inl (own_ne (by omega)))).other W242 (Or.inl (own_ne (by omega)))).keep K244 (ninS (own_ne (by omega)) nin0))
     have c254 : Arv Z h244 r_11 kr_11 .byte (2 : Int32) [(.int (own_by u7)), (.int (own_by u8))] (.int (0 : Int32)) := (((((fj233_11.ext E237).ext E240).other W241 (own_ne (by omega))).other W242 (own_ne (by omega))).keep K244 (ninS (own_ne (by omega)) nin0))
     obtain ⟨cq249, kq249, q249a, q249b, q249c⟩ := isOf hZ e244 c251
     obtain ⟨_, _, ⟨T249, LC249, kC249, nC249⟩, -, X249, ⟨Lc249, hQ249, lq249, yq249, zq249⟩, st249⟩ := X244.virtualBack hx (y := oM1) (z := oM1) hown (mvT hZ (own_hw hw 146)) (mvT hZ (own_hw hw 147)) (notFace_of_selects (args := #[]) (mvT hZ (own_hw hw 149))) (mvT hZ (own_hw hw 149)) (mvT hZ (own_hw hw 148)) (by decide) (backOf (W := 0) (rse_gen l Z a0 hw [] b4 b237 zc r_11 kr_11 (2 : Int32) [(.int (own_by u7)), (.int (own_by u8))] r_244 kr_244 h244 n0 (by omega) c250 (by assumption) (own_ne (by omega)) c251 c252 c253 g244_0 g244_1 g244_2 c254 g244_3 (Or.inr (Or.inr (Or.inl ⟨_, _, rfl, rfl⟩)))) hZ (own_hw hw 150) (own_hw hw 2) (by decide) (by decide)) q249a q249c (g := (mkF m 566 #[oi p0, oi p1, oi p2, oi p3, oi 3, oi u5, oi u6, oi u7, oi u8, oR a1_1, oR a1_2, oR b4, oi u12, oi u13, oi u14, oi n15, oR w16, oR w17, oR b19, oR rp, oR er, oR b19] [(.ref b237), (.ref b4)])) rfl hml.symm (Steps.refl _) (argsL := [(.ref b237)]) (rest := []) (lenOf pd_24 rfl) rfl (Nat.le_of_eq rfl) (hb hby at_566) (fun _ _ => ⟨rfl, e244, (by decide : 53 + 0 ≤ _), (by decide : 368 + 0 ≤ _)⟩)
     dsimp only [Pt.U, Pt.locs, Pt.cells, Pt.slots] at X249 lq249 yq249 zq249 st249 hQ249
     subst lq249 yq249 zq249
     obtain ⟨rfl, Nq249, eq249⟩ := hQ249
     have N249 := Fr.app N244 Nq249
     refine ow (oT T249 m 569 #[oi p0, oi p1, oi p2, oi p3, oi 3, oi u5, oi u6, oi u7, oi u8, oR a1_1, oR a1_2, oR b4, oi u12, oi u13, oi u14, oi n15, oR w16, oR w17, oR b19, oR rp, oR er, oR b19] [(.int (1 : Int32))]) (fun _ k => st249.trans k) ?_
     have hc255 : ¬ ((1 : Int32) = (0 : Int32)) := by decide
     refine ow (oT T249 m 574 #[oi p0, oi p1, oi p2, oi p3, oi 3, oi u5, oi u6, oi u7, oi u8, oR a1_1, oR a1_2, oR b4, oi u12, oi u13, oi u14, oi n15, oR w16, oR w17, oR b19, oR rp, oR er, oR b19] []) (fun _ k => XS.ifYes X249.here hx rfl (pc0 := 569) (pc' := 574) rfl (hb hby at_569) rfl ((if0 _ _).trans (feq hc255).2) (by decide) (by decide) k) ?_
     refine ow (oT T249 m 575 #[oi p0, oi p1, oi p2, oi p3, oi 3, oi u5, oi u6, oi u7, oi u8, oR a1_1, oR a1_2, oR b4, oi u12, oi u13, oi u14, oi n15, oR w16, oR w17, oR b19, oR rp, oR er, oR b19] [(.int (1 : Int32))]) (fun _ k => XS.iconst X249.here hx rfl (hb hby at_574) k) ?_
     obtain ⟨fs, hr, hrun, hended, hR1, hR2, hR3, hR4⟩ := X249.leaveW hSj233 (by rw [eq249]; omega) (v := some (.int (1 : Int32))) (fun h => by rw [Bd.returns] at h; cases h)
     refine ⟨_, _, ?_, hP _ _ hrun hended ⟨_, _, rfl, ?_, hR1, hR2, hR3, hR4.mono (by decide) (by decide)⟩⟩
     · exact retN X249 hx (t := .boolean) Bd.returns (by simp) (hb hby at_575) hr
     ·
      show Qrm0 Z p0 p1 p2 p3 de kde em zc h0 n0 _ T249.heap _
      rw [eq249]
      exact ⟨rfl, N249, trivial⟩
    have J489_257 : ∀ (Tj257 : State) (lj257 : List Loc) (hj257 : Heap) (ea : Addr) (ke : ClassId) (rp : Addr) (er : Addr) (vj257 : Vm) (kj257 : Nat) (Xj257 : Stand p l e room_1 (s.setVm vj257) m #[(.int p0), (.int p1), (.int p2), (.int p3)] below meth c Tj257 lj257 44 330) (ej257 : Tj257.heap = hj257) (Nj257 : Fr n0 lj257) (hSj257 : s.Since vj257 kj257) (hkj257 : kj257 ≤ hj257.size) (hZj257 : Z.Warmed39 (s.setVm vj257).vm) (hoj257 : (s.setVm vj257).vm.findClass oS14 = some m.cls) (Aj257 : CHr Z own_EL s.vm h0 vj257 hj257)  (szj257 : h23.size ≤ hj257.size) (fj257_0 : Exa Z hj257 a1_1 oS0) (fj257_1 : Fld Z hj257 a1_1 oS0 "value" "[B" (.ref r_1)) (fj257_2 : Fld Z hj257 a1_1 oS0 "coder" "B" (.int (0 : Int32))) (fj257_3 : Arv Z hj257 r_1 kr_1 .byte (1 : Int32) [(.int (own_by u5))] (.int (0 : Int32))) (fj257_4 : Exa Z hj257 a1_2 oS0) (fj257_5 : Fld Z hj257 a1_2 oS0 "value" "[B" (.ref r_2)) (fj257_6 : Fld Z hj257 a1_2 oS0 "coder" "B" (.int (0 : Int32))) (fj257_7 : Arv Z hj257 r_2 kr_2 .byte (1 : Int32) [(.int (own_by u6))] (.int (0 : Int32))) (fj257_8 : Exa Z hj257 b4 oS0) (fj257_9 : Fld Z hj257 b4 oS0 "value" "[B" (.ref r_11)) (fj257_10 : Fld Z hj257 b4 oS0 "coder" "B" (.int (0 : Int32))) (fj257_11 : Arv Z hj257 r_11 kr_11 .byte (2 : Int32) [(.int (own_by u7)), (.int (own_by u8))] (.int (0 : Int32))) (fj257_12 : Sta Z hj257 oS0 oS4 "Z" (.int zc)) (fj257_13 : Exa Z hj257 b19 oS1) (fj257_14 : Fld Z hj257 b19 oS1 "elementData" oS3 (.ref ea)) (fj257_15 : Fld Z hj257 b19 oS1 "size" "I" (.int (3 : Int32))) (fj257_16 : Arv Z hj257 ea ke (.object oS2) (10 : Int32) [(.ref a1_1), (.ref a1_2), (.ref b4), .null, .null, .null, .null, .null, .null, .null] .null), own_Go p.tables e below P (Tj257.setTop (mkF m 489 #[oi p0, oi p1, oi p2, oi p3, oi 3, oi u5, oi u6, oi u7, oi u8, oR a1_1, oR a1_2, oR b4, oi u12, oi u13, oi u14, oi n15, oR w16, oR w17, oR b19, oR rp, oR er, oR b19] [])) := by
     intro Tj257 lj257 hj257 ea ke rp er vj257 kj257 Xj257 ej257 Nj257 hSj257 hkj257 hZ hown Aj257 szj257 fj257_0 fj257_1 fj257_2 fj257_3 fj257_4 fj257_5 fj257_6 fj257_7 fj257_8 fj257_9 fj257_10 fj257_11 fj257_12 fj257_13 fj257_14 fj257_15 fj257_16
     have ltj257_0 : @LT.lt Nat _ a1_1 hj257.size := fj257_0.lt
     have ltj257_3 : @LT.lt Nat _ r_1 hj257.size := fj257_3.lt
     have ltj257_4 : @LT.lt Nat _ a1_2 hj257.size := fj257_4.lt
     have ltj257_7 : @LT.lt Nat _ r_2 hj257.size := fj257_7.lt
     have ltj257_8 : @LT.lt Nat _ b4 hj257.size := fj257_8.lt
     have ltj257_11 : @LT.lt Nat _ r_11 hj257.size := fj257_11.lt
     have ltj257_13 : @LT.lt Nat _ b19 hj257.size := fj257_13.lt
     have ltj257_16 : @LT.lt Nat _ ea hj257.size := fj257_16.lt
     refine ow (oT Tj257 m 491 #[oi p0, oi p1, oi p2, oi p3, oi 3, oi u5, oi u6, oi u7, oi u8, oR a1_1, oR a1_2, oR b4, oi u12, oi u13, oi u14, oi n15, oR w16, oR w17, oR b19, oR rp, oR er, oR b19] [(.int (3 : Int32))]) (fun _ k => XS.iload Xj257.here hx rfl (hb hby at_489) rfl k) ?_
     refine ow (oT Tj257 m 492 #[oi p0, oi p1, oi p2, oi p3, oi 3, oi u5, oi u6, oi u7, oi u8, oR a1_1, oR a1_2, oR b4, oi u12, oi u13, oi u14, oi n15, oR w16, oR w17, oR b19, oR rp, oR er, oR b19] [(.int (1 : Int32)), (.int (3 : Int32))]) (fun _ k => XS.iconst Xj257.here hx rfl (hb hby at_491) k) ?_
     have hc258 : (1 : Int32) < (3 : Int32) := by decide
     refine ow (oT Tj257 m 495 #[oi p0, oi p1, oi p2, oi p3, oi 3, oi u5, oi u6, oi u7, oi u8, oR a1_1, oR a1_2, oR b4, oi u12, oi u13, oi u14, oi n15, oR w16, oR w17, oR b19, oR rp, oR er, oR b19] []) (fun _ k => XS.icmpNo Xj257.here hx rfl (hb hby at_492) rfl (tlt hc258).2.2.2 k) ?_
     refine ow (oT Tj257 m 497 #[oi p0, oi p1, oi p2, oi p3, oi 3, oi u5, oi u6, oi u7, oi u8, oR a1_1, oR a1_2, oR b4, oi u12, oi u13, oi u14, oi n15, oR w16, oR w17, oR b19, oR rp, oR er, oR b19] [(.ref b19)]) (fun _ k => XS.aload Xj257.here hx rfl (hb hby at_495) rfl rfl k) ?_
     refine ow (oT Tj257 m 498 #[oi p0, oi p1, oi p2, oi p3, oi 3, oi u5, oi u6, oi u7, oi u8, oR a1_1, oR a1_2, oR b4, oi u12, oi u13, oi u14, oi n15, oR w16, oR w17, oR b19, oR rp, oR er, oR b19] [(.int (1 : Int32)), (.ref b19)]) (fun _ k => XS.iconst Xj257.here hx rfl (hb hby at_497) k) ?_
     obtain ⟨cq259, kq259, q259a, q259b, q259c⟩ := isOf hZ ej257 fj257_13
     obtain ⟨_, _, ⟨T259, LC259, kC259, nC259⟩, -, X259, ⟨Lc259, hQ259, lq259, yq259, zq259⟩, st259⟩ := Xj257.interfaceBack hx (xi := oM12) (y := oM5) hown (mvT hZ (own_hw hw 138)) (mvT hZ (own_hw hw 139)) (mvT hZ (own_hw hw 140)) (mvT hZ (own_hw hw 199)) (mvT hZ (own_hw hw 200)) (mvT hZ (own_hw hw 201)) (mvT hZ (own_hw hw 202)) (mvT hZ (own_hw hw 163)) (by decide) (backOf (W := 0) (rge_13 l Z a0 hw [] b19 ea ke (.ref a1_1) (.ref a1_2) (.ref b4) hj257 n0 (by omega) fj257_13 fj257_15 fj257_14 fj257_16 rfl) hZ (own_hw hw 203) (own_hw hw 46) (by decide) (by decide)) q259a q259b q259c (g := (mkF m 498 #[oi p0, oi p1, oi p2, oi p3, oi 3, oi u5, oi u6, oi u7, oi u8, oR a1_1, oR a1_2, oR b4, oi u12, oi u13, oi u14, oi n15, oR w16, oR w17, oR b19, oR rp, oR er, oR b19] [(.int (1 : Int32)), (.ref b19)])) rfl hml.symm (Steps.refl _) (argsL := [(.int (1 : Int32))]) (rest := []) (lenOf pd_14 rfl) rfl (Nat.le_of_eq rfl) (hb hby at_498) (fun _ _ => ⟨rfl, ej257, (by decide : 44 + 0 ≤ _), (by decide : 330 + 0 ≤ _)⟩)
     dsimp only [Pt.U, Pt.locs, Pt.cells, Pt.slots] at X259 lq259 yq259 zq259 st259 hQ259
     subst lq259 yq259 zq259
     obtain ⟨rfl, Nq259, eq259⟩ := hQ259
     have N259 := Fr.app Nj257 Nq259
     refine ow (oT T259 m 503 #[oi p0, oi p1, oi p2, oi p3, oi 3, oi u5, oi u6, oi u7, oi u8, oR a1_1, oR a1_2, oR b4, oi u12, oi u13, oi u14, oi n15, oR w16, oR w17, oR b19, oR rp, oR er, oR b19] [(.ref a1_2)]) (fun _ k => st259.trans k) ?_
     obtain ⟨T260, X260, e260, st260⟩ := castY X259 hx hZ hown (own_hw hw 26) eq259 (Ins.self fj257_4) (g := (mkF m 503 #[oi p0, oi p1, oi p2, oi p3, oi 3, oi u5, oi u6, oi u7, oi u8, oR a1_1, oR a1_2, oR b4, oi u12, oi u13, oi u14, oi n15, oR w16, oR w17, oR b19, oR rp, oR er, oR b19] [(.ref a1_2)])) rfl rfl (hb hby at_503)
     refine ow (oT T260 m 506 #[oi p0, oi p1, oi p2, oi p3, oi 3, oi u5, oi u6, oi u7, oi u8, oR a1_1, oR a1_2, oR b4, oi u12, oi u13, oi u14, oi n15, oR w16, oR w17, oR b19, oR rp, oR er, oR b19] [(.ref a1_2)]) (st260) ?_
     obtain ⟨T261, h261, X261, e261, E261, A261, D261, -, st261⟩ := newO X260 hx hZ hown (own_hw hw 26) (own_hw hw 10) (own_hw hw 2) e260 (g := (mkF m 506 #[oi p0, oi p1, oi p2, oi p3, oi 3, oi u5, oi u6, oi u7, oi u8, oR a1_1, oR a1_2, oR b4, oi u12, oi u13, oi u14, oi n15, oR w16, oR w17, oR b19, oR rp, oR er, oR b19] [(.ref a1_2)])) rfl (hb hby at_506) (by decide) (by decide)
     obtain ⟨b261, g261⟩ : ∃ z, z = hj257.size := ⟨_, rfl⟩
     rw [← g261] at A261 D261 st261
     have sz261 : hj257.size ≤ h261.size := E261.1
     have lt261 : @LT.lt Nat _ b261 h261.size := A261.lt
     have f262 : Fld Z h261 b261 oS0 "value" "[B" .null := D261 (Or.inr (own_hw hw 23)) (ty := (.array .byte)) (by decide)
     have f263 : Fld Z h261 b261 oS0 "coder" "B" (.int (0 : Int32)) := D261 (Or.inr (own_hw hw 25)) (ty := .byte) (by decide)
     refine ow (oT T261 m 509 #[oi p0, oi p1, oi p2, oi p3, oi 3, oi u5, oi u6, oi u7, oi u8, oR a1_1, oR a1_2, oR b4, oi u12, oi u13, oi u14, oi n15, oR w16, oR w17, oR b19, oR rp, oR er, oR b19] [(.ref b261), (.ref a1_2)]) (st261) ?_
     refine ow (oT T261 m 510 #[oi p0, oi p1, oi p2, oi p3, oi 3, oi u5, oi u6, oi u7, oi u8, oR a1_1, oR a1_2, oR b4, oi u12, oi u13, oi u14, oi n15, oR w16, oR w17, oR b19, oR rp, oR er, oR b19] [(.ref b261), (.ref b261), (.ref a1_2)]) (fun _ k => XS.dup X261.here hx rfl (hb hby at_509) rfl rfl k) ?_
     refine ow (oT T261 m 511 #[oi p0, oi p1, oi p2, oi p3, oi 3, oi u5, oi u6, oi u7, oi u8, oR a1_1, oR a1_2, oR b4, oi u12, oi u13, oi u14, oi n15, oR w16, oR w17, oR b19, oR rp, oR er, oR b19] [(.int (1 : Int32)), (.ref b261), (.ref b261), (.ref a1_2)]) (fun _ k => XS.iconst X261.here hx rfl (hb hby at_510) k) ?_
     obtain ⟨T264, h264, k264, X264, e264, E264, A264, st264⟩ := newP X261 hx hZ (own_hw hw 27) e261 (g := (mkF m 511 #[oi p0, oi p1, oi p2, oi p3, oi 3, oi u5, oi u6, oi u7, oi u8, oR a1_1, oR a1_2, oR b4, oi u12, oi u13, oi u14, oi n15, oR w16, oR w17, oR b19, oR rp, oR er, oR b19] [(.int (1 : Int32)), (.ref b261), (.ref b261), (.ref a1_2)])) rfl (hb hby at_511) rfl (by decide) (cap := 1) (by decide) (by decide) (by decide) (by decide)
     obtain ⟨b264, g264⟩ : ∃ z, z = h261.size := ⟨_, rfl⟩
     rw [← g264] at A264 st264
     have sz264 : h261.size ≤ h264.size := E264.1
     have lt264 : @LT.lt Nat _ b264 h264.size := A264.lt
     have v264 : Arv Z h264 b264 k264 .char (1 : Int32) [(.int (0 : Int32))] (.int (0 : Int32)) := (Arv.new A264 (by decide)).pad (pad_rep [] (.int (0 : Int32)) 1)
     refine ow (oT T264 m 513 #[oi p0, oi p1, oi p2, oi p3, oi 3, oi u5, oi u6, oi u7, oi u8, oR a1_1, oR a1_2, oR b4, oi u12, oi u13, oi u14, oi n15, oR w16, oR w17, oR b19, oR rp, oR er, oR b19] [(.ref b264), (.ref b261), (.ref b261), (.ref a1_2)]) (st264) ?_
     refine ow (oT T264 m 514 #[oi p0, oi p1, oi p2, oi p3, oi 3, oi u5, oi u6, oi u7, oi u8, oR a1_1, oR a1_2, oR b4, oi u12, oi u13, oi u14, oi n15, oR w16, oR w17, oR b19, oR rp, oR er, oR b19] [(.ref b264), (.ref b264), (.ref b261), (.ref b261), (.ref a1_2)]) (fun _ k => XS.dup X264.here hx rfl (hb hby at_513) rfl rfl k) ?_
     refine ow (oT T264 m 515 #[oi p0, oi p1, oi p2, oi p3, oi 3, oi u5, oi u6, oi u7, oi u8, oR a1_1, oR a1_2, oR b4, oi u12, oi u13, oi u14, oi n15, oR w16, oR w17, oR b19, oR rp, oR er, oR b19] [(.int (0 : Int32)), (.ref b264), (.ref b264), (.ref b261), (.ref b261), (.ref a1_2)]) (fun _ k => XS.iconst X264.here hx rfl (hb hby at_514) k) ?_
     refine ow (oT T264 m 517 #[oi p0, oi p1, oi p2, oi p3, oi 3, oi u5, oi u6, oi u7, oi u8, oR a1_1, oR a1_2, oR b4, oi u12, oi u13, oi u14, oi n15, oR w16, oR w17, oR b19, oR rp, oR er, oR b19] [(.int u6), (.int (0 : Int32)), (.ref b264), (.ref b264), (.ref b261), (.ref b261), (.ref a1_2)]) (fun _ k => XS.iload X264.here hx rfl (hb hby at_515) rfl k) ?_
     obtain ⟨cl265, Ar265, qc265, S265, M265, H265, G265⟩ := id v264
     have hin265 : ¬ ((0 : Int32) < 0 ∨ cl265.slots.size ≤ ((0 : Int32)).toNatClampNeg) := (inb_of S265 ⟨by decide, by decide⟩)
     obtain ⟨T265, h265, X265, e265, W265, st265⟩ := stC X264 hx hZ e264 Ar265 (j := (0 : Int32)) hin265 (g := (mkF m 517 #[oi p0, oi p1, oi p2, oi p3, oi 3, oi u5, oi u6, oi u7, oi u8, oR a1_1, oR a1_2, oR b4, oi u12, oi u13, oi u14, oi n15, oR w16, oR w17, oR b19, oR rp, oR er, oR b19] [(.int u6), (.int (0 : Int32)), (.ref b264), (.ref b264), (.ref b261), (.ref b261), (.ref a1_2)])) rfl rfl (hb hby at_517)
     have sz265 : h265.size = h264.size := W265.size
     have N265 := Fr.snoc X265 N259 (by omega)
     have v265 : Arv Z h265 b264 k264 .char (1 : Int32) [(.int (nar .char u6))] (.int (0 : Int32)) := Arv.set Ar265 qc265 S265 M265 H265 G265 (fits_nar_char _) W265 0 rfl (Nat.le_of_ble_eq_true rfl)
     refine ow (oT T265 m 518 #[oi p0, oi p1, oi p2, oi p3, oi 3, oi u5, oi u6, oi u7, oi u8, oR a1_1, oR a1_2, oR b4, oi u12, oi u13, oi u14, oi n15, oR w16, oR w17, oR b19, oR rp, oR er, oR b19] [(.ref b264), (.ref b261), (.ref b261), (.ref a1_2)]) (st265) ?_
     have v266 : Arv Z h265 b264 k264 .char (1 : Int32) [(.int u6)] (.int (0 : Int32)) := by have q_ := v265; rw [own_lat_ch hl_u6] at q_; exact q_
     have c268 : Exa Z h265 b261 oS0 := ((A261.ext E264).wr W265)
     have c269 : Fld Z h265 b261 oS0 "value" "[B" .null := ((f262.ext E264).other W265 (Or.inl (own_ne (by omega))))
     have c270 : Fld Z h265 b261 oS0 "coder" "B" (.int (0 : Int32)) := ((f263.ext E264).other W265 (Or.inl (own_ne (by omega))))
     have c271 : Sta Z h265 oS0 oS4 "Z" (.int zc) := (((fj257_12.ext E261).ext E264).wr W265)
     obtain ⟨_, _, ⟨T267, LC267, kC267, nC267⟩, -, X267, ⟨Lc267, hQ267, lq267, yq267, zq267⟩, st267⟩ := X265.specialBack hx (y := oM0) rfl hown (mvT hZ (own_hw hw 28)) (mvT hZ (own_hw hw 29)) (mvT hZ (own_hw hw 30)) (by decide) (backOf (W := 2) (rsc_1 l Z a0 hw [] b261 b264 k264 zc u6 h265 n0 (by omega) c268 c269 c270 v266 c271 (by assumption) hl_u6 (by omega) (own_ne (by omega))) hZ (own_hw hw 30) (own_hw hw 2) (by decide) (by decide)) (g := (mkF m 518 #[oi p0, oi p1, oi p2, oi p3, oi 3, oi u5, oi u6, oi u7, oi u8, oR a1_1, oR a1_2, oR b4, oi u12, oi u13, oi u14, oi n15, oR w16, oR w17, oR b19, oR rp, oR er, oR b19] [(.ref b264), (.ref b261), (.ref b261), (.ref a1_2)])) rfl hml.symm (Steps.refl _) (a := b261) (argsL := [(.ref b264)]) (rest := [(.ref b261), (.ref a1_2)]) (lenOf pd_20 rfl) rfl (Nat.le_of_eq rfl) (hb hby at_518) (fun _ _ => ⟨rfl, e265, (by decide : 46 + 1 ≤ _), (by decide : 335 + 1 ≤ _)⟩)
     dsimp only [Pt.U, Pt.locs, Pt.cells, Pt.slots] at X267 lq267 yq267 zq267 st267 hQ267
     subst lq267 yq267 zq267
     obtain ⟨h267, e267⟩ : ∃ z, T267.heap = z := ⟨_, rfl⟩
     rw [e267] at hQ267
     obtain ⟨r_267, kr_267, rfl, Nq267, K267, g267_0, g267_1, g267_2, g267_3, g267_4⟩ := hQ267
     have sz267 : h265.size ≤ h267.size := K267.1
     have N267 := Fr.app N265 Nq267
     have lt267_1 : @LT.lt Nat _ b261 h267.size := g267_0.lt
     have lt267_2 : @LT.lt Nat _ r_267 h267.size := g267_3.lt
     refine ow (oT T267 m 521 #[oi p0, oi p1, oi p2, oi p3, oi 3, oi u5, oi u6, oi u7, oi u8, oR a1_1, oR a1_2, oR b4, oi u12, oi u13, oi u14, oi n15, oR w16, oR w17, oR b19, oR rp, oR er, oR b19] [(.ref b261), (.ref a1_2)]) (fun _ k => st267.trans k) ?_
     have c273 : Sta Z h267 oS0 oS4 "Z" (.int zc) := (own_sta_keep c271 K267 (allS (P := fun x => ∀ c : Cell, h265[x]? = some c → c.vm.isStatics = false) (own_pl_exa c268) all0))
     have c274 : Exa Z h267 a1_2 oS0 := ((((fj257_4.ext E261).ext E264).wr W265).keep K267)
     have c275 : Fld Z h267 a1_2 oS0 "value" "[B" (.ref r_2) := ((((fj257_5.ext E261).ext E264).other W265 (Or.inl (own_ne (by omega)))).keep K267 (ninS (own_ne (by omega)) nin0))
     have c276 : Fld Z h267 a1_2 oS0 "coder" "B" (.int (0 : Int32)) := ((((fj257_6.ext E261).ext E264).other W265 (Or.inl (own_ne (by omega)))).keep K267 (ninS (own_ne (by omega)) nin0))
     have c277 : Arv Z h267 r_2 kr_2 .byte (1 : Int32) [(.int (own_by u6))] (.int (0 : Int32)) := ((((fj257_7.ext E261).ext E264).other W265 (own_ne (by omega))).keep K267 (ninS (own_ne (by omega)) nin0))
     obtain ⟨cq272, kq272, q272a, q272b, q272c⟩ := isOf hZ e267 c274
     obtain ⟨_, _, ⟨T272, LC272, kC272, nC272⟩, -, X272, ⟨Lc272, hQ272, lq272, yq272, zq272⟩, st272⟩ := X267.virtualBack hx (y := oM1) (z := oM1) hown (mvT hZ (own_hw hw 146)) (mvT hZ (own_hw hw 147)) (notFace_of_selects (args := #[]) (mvT hZ (own_hw hw 149))) (mvT hZ (own_hw hw 149)) (mvT hZ (own_hw hw 148)) (by decide) (backOf (W := 0) (rse_gen l Z a0 hw [] a1_2 b261 zc r_2 kr_2 (1 : Int32) [(.int (own_by u6))] r_267 kr_267 h267 n0 (by omega) c273 (by assumption) (own_ne (by omega)) c274 c275 c276 g267_0 g267_1 g267_2 c277 g267_3 (Or.inr (Or.inl ⟨_, rfl, rfl⟩))) hZ (own_hw hw 150) (own_hw hw 2) (by decide) (by decide)) q272a q272c (g := (mkF m 521 #[oi p0, oi p1, oi p2, oi p3, oi 3, oi u5, oi u6, oi u7, oi u8, oR a1_1, oR a1_2, oR b4, oi u12, oi u13, oi u14, oi n15, oR w16, oR w17, oR b19, oR rp, oR er, oR b19] [(.ref b261), (.ref a1_2)])) rfl hml.symm (Steps.refl _) (argsL := [(.ref b261)]) (rest := []) (lenOf pd_24 rfl) rfl (Nat.le_of_eq rfl) (hb hby at_521) (fun _ _ => ⟨rfl, e267, (by decide : 47 + 0 ≤ _), (by decide : 336 + 0 ≤ _)⟩)
     dsimp only [Pt.U, Pt.locs, Pt.cells, Pt.slots] at X272 lq272 yq272 zq272 st272 hQ272
     subst lq272 yq272 zq272
     obtain ⟨rfl, Nq272, eq272⟩ := hQ272
     have N272 := Fr.app N267 Nq272
     refine ow (oT T272 m 524 #[oi p0, oi p1, oi p2, oi p3, oi 3, oi u5, oi u6, oi u7, oi u8, oR a1_1, oR a1_2, oR b4, oi u12, oi u13, oi u14, oi n15, oR w16, oR w17, oR b19, oR rp, oR er, oR b19] [(.int (1 : Int32))]) (fun _ k => st272.trans k) ?_
     have hc278 : ¬ ((1 : Int32) = (0 : Int32)) := by decide
     refine ow (oT T272 m 529 #[oi p0, oi p1, oi p2, oi p3, oi 3, oi u5, oi u6, oi u7, oi u8, oR a1_1, oR a1_2, oR b4, oi u12, oi u13, oi u14, oi n15, oR w16, oR w17, oR b19, oR rp, oR er, oR b19] []) (fun _ k => XS.ifYes X272.here hx rfl (pc0 := 524) (pc' := 529) rfl (hb hby at_524) rfl ((if0 _ _).trans (feq hc278).2) (by decide) (by decide) k) ?_
     have KA279 : Keep hj257 h267 [] := (((((Keep.refl hj257 []).ext E261).ext E264).wr W265 (Or.inr (by omega))).trans K267 (allS (P := fun x => x ∈ [] ∨ hj257.size ≤ x) (Or.inr (by omega)) all0))
     have AS279 := CHr.keep (EL := own_EL) KA279 all0 Aj257.1
     have AA280 := Aj257.trans AS279
     have c281 : Exa Z h267 b19 oS1 := ((((fj257_13.ext E261).ext E264).wr W265).keep K267)
     have c282 : Exa Z h267 a1_1 oS0 := ((((fj257_0.ext E261).ext E264).wr W265).keep K267)
     have c283 : Fld Z h267 a1_1 oS0 "value" "[B" (.ref r_1) := ((((fj257_1.ext E261).ext E264).other W265 (Or.inl (own_ne (by omega)))).keep K267 (ninS (own_ne (by omega)) nin0))
     have c284 : Fld Z h267 a1_1 oS0 "coder" "B" (.int (0 : Int32)) := ((((fj257_2.ext E261).ext E264).other W265 (Or.inl (own_ne (by omega)))).keep K267 (ninS (own_ne (by omega)) nin0))
     have c285 : Arv Z h267 r_1 kr_1 .byte (1 : Int32) [(.int (own_by u5))] (.int (0 : Int32)) := ((((fj257_3.ext E261).ext E264).other W265 (own_ne (by omega))).keep K267 (ninS (own_ne (by omega)) nin0))
     have c286 : Exa Z h267 b4 oS0 := ((((fj257_8.ext E261).ext E264).wr W265).keep K267)
     have c287 : Fld Z h267 b4 oS0 "value" "[B" (.ref r_11) := ((((fj257_9.ext E261).ext E264).other W265 (Or.inl (own_ne (by omega)))).keep K267 (ninS (own_ne (by omega)) nin0))
     have c288 : Fld Z h267 b4 oS0 "coder" "B" (.int (0 : Int32)) := ((((fj257_10.ext E261).ext E264).other W265 (Or.inl (own_ne (by omega)))).keep K267 (ninS (own_ne (by omega)) nin0))
     have c289 : Arv Z h267 r_11 kr_11 .byte (2 : Int32) [(.int (own_by u7)), (.int (own_by u8))] (.int (0 : Int32)) := ((((fj257_11.ext E261).ext E264).other W265 (own_ne (by omega))).keep K267 (ninS (own_ne (by omega)) nin0))
     have c290 : Fld Z h267 b19 oS1 "elementData" oS3 (.ref ea) := ((((fj257_14.ext E261).ext E264).other W265 (Or.inl (own_ne (by omega)))).keep K267 (ninS (own_ne (by omega)) nin0))
     have c291 : Fld Z h267 b19 oS1 "size" "I" (.int (3 : Int32)) := ((((fj257_15.ext E261).ext E264).other W265 (Or.inl (own_ne (by omega)))).keep K267 (ninS (own_ne (by omega)) nin0))
     have c292 : Arv Z h267 ea ke (.object oS2) (10 : Int32) [(.ref a1_1), (.ref a1_2), (.ref b4), .null, .null, .null, .null, .null, .null, .null] .null := ((((fj257_16.ext E261).ext E264).other W265 (own_ne (by omega))).keep K267 (ninS (own_ne (by omega)) nin0))
     exact J529_233 _ _ _ ea ke rp er _ _ (own_widen X272 (by decide) (by decide)) eq272 N272 hSj257 (by omega) hZ hown AA280 (by omega) c282 c283 c284 c285 c274 c275 c276 c277 c286 c287 c288 c289 c273 c281 c290 c291 c292
    have J450_293 : ∀ (Tj293 : State) (lj293 : List Loc) (hj293 : Heap) (ea : Addr) (ke : ClassId) (rp : Addr) (er : Addr) (vj293 : Vm) (kj293 : Nat) (Xj293 : Stand p l e room_1 (s.setVm vj293) m #[(.int p0), (.int p1), (.int p2), (.int p3)] below meth c Tj293 lj293 38 300) (ej293 : Tj293.heap = hj293) (Nj293 : Fr n0 lj293) (hSj293 : s.Since vj293 kj293) (hkj293 : kj293 ≤ hj293.size) (hZj293 : Z.Warmed39 (s.setVm vj293).vm) (hoj293 : (s.setVm vj293).vm.findClass oS14 = some m.cls) (Aj293 : CHr Z own_EL s.vm h0 vj293 hj293)  (szj293 : h23.size ≤ hj293.size) (fj293_0 : Exa Z hj293 a1_1 oS0) (fj293_1 : Fld Z hj293 a1_1 oS0 "value" "[B" (.ref r_1)) (fj293_2 : Fld Z hj293 a1_1 oS0 "coder" "B" (.int (0 : Int32))) (fj293_3 : Arv Z hj293 r_1 kr_1 .byte (1 : Int32) [(.int (own_by u5))] (.int (0 : Int32))) (fj293_4 : Exa Z hj293 a1_2 oS0) (fj293_5 : Fld Z hj293 a1_2 oS0 "value" "[B" (.ref r_2)) (fj293_6 : Fld Z hj293 a1_2 oS0 "coder" "B" (.int (0 : Int32))) (fj293_7 : Arv Z hj293 r_2 kr_2 .byte (1 : Int32) [(.int (own_by u6))] (.int (0 : Int32))) (fj293_8 : Exa Z hj293 b4 oS0) (fj293_9 : Fld Z hj293 b4 oS0 "value" "[B" (.ref r_11)) (fj293_10 : Fld Z hj293 b4 oS0 "coder" "B" (.int (0 : Int32))) (fj293_11 : Arv Z hj293 r_11 kr_11 .byte (2 : Int32) [(.int (own_by u7)), (.int (own_by u8))] (.int (0 : Int32))) (fj293_12 : Sta Z hj293 oS0 oS4 "Z" (.int zc)) (fj293_13 : Exa Z hj293 b19 oS1) (fj293_14 : Fld Z hj293 b19 oS1 "elementData" oS3 (.ref ea)) (fj293_15 : Fld Z hj293 b19 oS1 "size" "I" (.int (3 : Int32))) (fj293_16 : Arv Z hj293 ea ke (.object oS2) (10 : Int32) [(.ref a1_1), (.ref a1_2), (.ref b4), .null, .null, .null, .null, .null, .null, .null] .null), own_Go p.tables e below P (Tj293.setTop (mkF m 450 #[oi p0, oi p1, oi p2, oi p3, oi 3, oi u5, oi u6, oi u7, oi u8, oR a1_1, oR a1_2, oR b4, oi u12, oi u13, oi u14, oi n15, oR w16, oR w17, oR b19, oR rp, oR er, oR b19] [])) := by
     intro Tj293 lj293 hj293 ea ke rp er vj293 kj293 Xj293 ej293 Nj293 hSj293 hkj293 hZ hown Aj293 szj293 fj293_0 fj293_1 fj293_2 fj293_3 fj293_4 fj293_5 fj293_6 fj293_7 fj293_8 fj293_9 fj293_10 fj293_11 fj293_12 fj293_13 fj293_14 fj293_15 fj293_16
     have ltj293_0 : @LT.lt Nat _ a1_1 hj293.size := fj293_0.lt
     have ltj293_3 : @LT.lt Nat _ r_1 hj293.size := fj293_3.lt
     have ltj293_4 : @LT.lt Nat _ a1_2 hj293.size := fj293_4.lt
     have ltj293_7 : @LT.lt Nat _ r_2 hj293.size := fj293_7.lt
     have ltj293_8 : @LT.lt Nat _ b4 hj293.size := fj293_8.lt
     have ltj293_11 : @LT.lt Nat _ r_11 hj293.size := fj293_11.lt
     have ltj293_13 : @LT.lt Nat _ b19 hj293.size := fj293_13.lt
     have ltj293_16 : @LT.lt Nat _ ea hj293.size := fj293_16.lt
     refine ow (oT Tj293 m 452 #[oi p0, oi p1, oi p2, oi p3, oi 3, oi u5, oi u6, oi u7, oi u8, oR a1_1, oR a1_2, oR b4, oi u12, oi u13, oi u14, oi n15, oR w16, oR w17, oR b19, oR rp, oR er, oR b19] [(.int (3 : Int32))]) (fun _ k => XS.iload Xj293.here hx rfl (hb hby at_450) rfl k) ?_
     have hc294 : (0 : Int32) < (3 : Int32) := by decide
     refine ow (oT Tj293 m 455 #[oi p0, oi p1, oi p2, oi p3, oi 3, oi u5, oi u6, oi u7, oi u8, oR a1_1, oR a1_2, oR b4, oi u12, oi u13, oi u14, oi n15, oR w16, oR w17, oR b19, oR rp, oR er, oR b19] []) (fun _ k => XS.ifNo Xj293.here hx rfl (hb hby at_452) rfl ((if0 _ _).trans (tlt hc294).2.2.2) k) ?_
     refine ow (oT Tj293 m 457 #[oi p0, oi p1, oi p2, oi p3, oi 3, oi u5, oi u6, oi u7, oi u8, oR a1_1, oR a1_2, oR b4, oi u12, oi u13, oi u14, oi n15, oR w16, oR w17, oR b19, oR rp, oR er, oR b19] [(.ref b19)]) (fun _ k => XS.aload Xj293.here hx rfl (hb hby at_455) rfl rfl k) ?_
     refine ow (oT Tj293 m 458 #[oi p0, oi p1, oi p2, oi p3, oi 3, oi u5, oi u6, oi u7, oi u8, oR a1_1, oR a1_2, oR b4, oi u12, oi u13, oi u14, oi n15, oR w16, oR w17, oR b19, oR rp, oR er, oR b19] [(.int (0 : Int32)), (.ref b19)]) (fun _ k => XS.iconst Xj293.here hx rfl (hb hby at_457) k) ?_
     obtain ⟨cq295, kq295, q295a, q295b, q295c⟩ := isOf hZ ej293 fj293_13
     obtain ⟨_, _, ⟨T295, LC295, kC295, nC295⟩, -, X295, ⟨Lc295, hQ295, lq295, yq295, zq295⟩, st295⟩ := Xj293.interfaceBack hx (xi := oM12) (y := oM5) hown (mvT hZ (own_hw hw 138)) (mvT hZ (own_hw hw 139)) (mvT hZ (own_hw hw 140)) (mvT hZ (own_hw hw 199)) (mvT hZ (own_hw hw 200)) (mvT hZ (own_hw hw 201)) (mvT hZ (own_hw hw 202)) (mvT hZ (own_hw hw 163)) (by decide) (backOf (W := 0) (rge_03 l Z a0 hw [] b19 ea ke (.ref a1_1) (.ref a1_2) (.ref b4) hj293 n0 (by omega) fj293_13 fj293_15 fj293_14 fj293_16 rfl) hZ (own_hw hw 203) (own_hw hw 46) (by decide) (by decide)) q295a q295b q295c (g := (mkF m 458 #[oi p0, oi p1, oi p2, oi p3, oi 3, oi u5, oi u6, oi u7, oi u8, oR a1_1, oR a1_2, oR b4, oi u12, oi u13, oi u14, oi n15, oR w16, oR w17, oR b19, oR rp, oR er, oR b19] [(.int (0 : Int32)), (.ref b19)])) rfl hml.symm (Steps.refl _) (argsL := [(.int (0 : Int32))]) (rest := []) (lenOf pd_14 rfl) rfl (Nat.le_of_eq rfl) (hb hby at_458) (fun _ _ => ⟨rfl, ej293, (by decide : 38 + 0 ≤ _), (by decide : 300 + 0 ≤ _)⟩)
     dsimp only [Pt.U, Pt.locs, Pt.cells, Pt.slots] at X295 lq295 yq295 zq295 st295 hQ295
     subst lq295 yq295 zq295
     obtain ⟨rfl, Nq295, eq295⟩ := hQ295
     have N295 := Fr.app Nj293 Nq295
     refine ow (oT T295 m 463 #[oi p0, oi p1, oi p2, oi p3, oi 3, oi u5, oi u6, oi u7, oi u8, oR a1_1, oR a1_2, oR b4, oi u12, oi u13, oi u14, oi n15, oR w16, oR w17, oR b19, oR rp, oR er, oR b19] [(.ref a1_1)]) (fun _ k => st295.trans k) ?_
     obtain ⟨T296, X296, e296, st296⟩ := castY X295 hx hZ hown (own_hw hw 26) eq295 (Ins.self fj293_0) (g := (mkF m 463 #[oi p0, oi p1, oi p2, oi p3, oi 3, oi u5, oi u6, oi u7, oi u8, oR a1_1, oR a1_2, oR b4, oi u12, oi u13, oi u14, oi n15, oR w16, oR w17, oR b19, oR rp, oR er, oR b19] [(.ref a1_1)])) rfl rfl (hb hby at_463)
     refine ow (oT T296 m 466 #[oi p0, oi p1, oi p2, oi p3, oi 3, oi u5, oi u6, oi u7, oi u8, oR a1_1, oR a1_2, oR b4, oi u12, oi u13, oi u14, oi n15, oR w16, oR w17, oR b19, oR rp, oR er, oR b19] [(.ref a1_1)]) (st296) ?_
     obtain ⟨T297, h297, X297, e297, E297, A297, D297, -, st297⟩ := newO X296 hx hZ hown (own_hw hw 26) (own_hw hw 10) (own_hw hw 2) e296 (g := (mkF m 466 #[oi p0, oi p1, oi p2, oi p3, oi 3, oi u5, oi u6, oi u7, oi u8, oR a1_1, oR a1_2, oR b4, oi u12, oi u13, oi u14, oi n15, oR w16, oR w17, oR b19, oR rp, oR er, oR b19] [(.ref a1_1)])) rfl (hb hby at_466) (by decide) (by decide)
     obtain ⟨b297, g297⟩ : ∃ z, z = hj293.size := ⟨_, rfl⟩
     rw [← g297] at A297 D297 st297
     have sz297 : hj293.size ≤ h297.size := E297.1
     have lt297 : @LT.lt Nat _ b297 h297.size := A297.lt
     have f298 : Fld Z h297 b297 oS0 "value" "[B" .null := D297 (Or.inr (own_hw hw 23)) (ty := (.array .byte)) (by decide)
     have f299 : Fld Z h297 b297 oS0 "coder" "B" (.int (0 : Int32)) := D297 (Or.inr (own_hw hw 25)) (ty := .byte) (by decide)
     refine ow (oT T297 m 469 #[oi p0, oi p1, oi p2, oi p3, oi 3, oi u5, oi u6, oi u7, oi u8, oR a1_1, oR a1_2, oR b4, oi u12, oi u13, oi u14, oi n15, oR w16, oR w17, oR b19, oR rp, oR er, oR b19] [(.ref b297), (.ref a1_1)]) (st297) ?_
     refine ow (oT T297 m 470 #[oi p0, oi p1, oi p2, oi p3, oi 3, oi u5, oi u6, oi u7, oi u8, oR a1_1, oR a1_2, oR b4, oi u12, oi u13, oi u14, oi n15, oR w16, oR w17, oR b19, oR rp, oR er, oR b19] [(.ref b297), (.ref b297), (.ref a1_1)]) (fun _ k => XS.dup X297.here hx rfl (hb hby at_469) rfl rfl k) ?_
     refine ow (oT T297 m 471 #[oi p0, oi p1, oi p2, oi p3, oi 3, oi u5, oi u6, oi u7, oi u8, oR a1_1, oR a1_2, oR b4, oi u12, oi u13, oi u14, oi n15, oR w16, oR w17, oR b19, oR rp, oR er, oR b19] [(.int (1 : Int32)), (.ref b297), (.ref b297), (.ref a1_1)]) (fun _ k => XS.iconst X297.here hx rfl (hb hby at_470) k) ?_
     obtain ⟨T300, h300, k300, X300, e300, E300, A300, st300⟩ := newP X297 hx hZ (own_hw hw 27) e297 (g := (mkF m 471 #[oi p0, oi p1, oi p2, oi p3, oi 3, oi u5, oi u6, oi u7, oi u8, oR a1_1, oR a1_2, oR b4, oi u12, oi u13, oi u14, oi n15, oR w16, oR w17, oR b19, oR rp, oR er, oR b19] [(.int (1 : Int32)), (.ref b297), (.ref b297), (.ref a1_1)])) rfl (hb hby at_471) rfl (by decide) (cap := 1) (by decide) (by decide) (by decide) (by decide)
     obtain ⟨b300, g300⟩ : ∃ z, z = h297.size := ⟨_, rfl⟩
     rw [← g300] at A300 st300
     have sz300 : h297.size ≤ h300.size := E300.1
     have lt300 : @LT.lt Nat _ b300 h300.size := A300.lt
     have v300 : Arv Z h300 b300 k300 .char (1 : Int32) [(.int (0 : Int32))] (.int (0 : Int32)) := (Arv.new A300 (by decide)).pad (pad_rep [] (.int (0 : Int32)) 1)
     refine ow (oT T300 m 473 #[oi p0, oi p1, oi p2, oi p3, oi 3, oi u5, oi u6, oi u7, oi u8, oR a1_1, oR a1_2, oR b4, oi u12, oi u13, oi u14, oi n15, oR w16, oR w17, oR b19, oR rp, oR er, oR b19] [(.ref b300), (.ref b297), (.ref b297), (.ref a1_1)]) (st300) ?_
     refine ow (oT T300 m 474 #[oi p0, oi p1, oi p2, oi p3, oi 3, oi u5, oi u6, oi u7, oi u8, oR a1_1, oR a1_2, oR b4, oi u12, oi u13, oi u14, oi n15, oR w16, oR w17, oR b19, oR rp, oR er, oR b19] [(.ref b300), (.ref b300), (.ref b297), (.ref b297), (.ref a1_1)]) (fun _ k => XS.dup X300.here hx rfl (hb hby at_473) rfl rfl k) ?_
     refine ow (oT T300 m 475 #[oi p0, oi p1, oi p2, oi p3, oi 3, oi u5, oi u6, oi u7, oi u8, oR a1_1, oR a1_2, oR b4, oi u12, oi u13, oi u14, oi n15, oR w16, oR w17, oR b19, oR rp, oR er, oR b19] [(.int (0 : Int32)), (.ref b300), (.ref b300), (.ref b297), (.ref b297), (.ref a1_1)]) (fun _ k => XS.iconst X300.here hx rfl (hb hby at_474) k) ?_
     refine ow (oT T300 m 477 #[oi p0, oi p1, oi p2, oi p3, oi 3, oi u5, oi u6, oi u7, oi u8, oR a1_1, oR a1_2, oR b4, oi u12, oi u13, oi u14, oi n15, oR w16, oR w17, oR b19, oR rp, oR er, oR b19] [(.int u5), (.int (0 : Int32)), (.ref b300), (.ref b300), (.ref b297), (.ref b297), (.ref a1_1)]) (fun _ k => XS.iload X300.here hx rfl (hb hby at_475) rfl k) ?_
     obtain ⟨cl301, Ar301, qc301, S301, M301, H301, G301⟩ := id v300
     have hin301 : ¬ ((0 : Int32) < 0 ∨ cl301.slots.size ≤ ((0 : Int32)).toNatClampNeg) := (inb_of S301 ⟨by decide, by decide⟩)
     obtain ⟨T301, h301, X301, e301, W301, st301⟩ := stC X300 hx hZ e300 Ar301 (j := (0 : Int32)) hin301 (g := (mkF m 477 #[oi p0, oi p1, oi p2, oi p3, oi 3, oi u5, oi u6, oi u7, oi u8, oR a1_1, oR a1_2, oR b4, oi u12, oi u13, oi u14, oi n15, oR w16, oR w17, oR b19, oR rp, oR er, oR b19] [(.int u5), (.int (0 : Int32)), (.ref b300), (.ref b300), (.ref b297), (.ref b297), (.ref a1_1)])) rfl rfl (hb hby at_477)
     have sz301 : h301.size = h300.size := W301.size
     have N301 := Fr.snoc X301 N295 (by omega)
     have v301 : Arv Z h301 b300 k300 .char (1 : Int32) [(.int (nar .char u5))] (.int (0 : Int32)) := Arv.set Ar301 qc301 S301 M301 H301 G301 (fits_nar_char _) W301 0 rfl (Nat.le_of_ble_eq_true rfl)
     refine ow (oT T301 m 478 #[oi p0, oi p1, oi p2, oi p3, oi 3, oi u5, oi u6, oi u7, oi u8, oR a1_1, oR a1_2, oR b4, oi u12, oi u13, oi u14, oi n15, oR w16, oR w17, oR b19, oR rp, oR er, oR b19] [(.ref b300), (.ref b297), (.ref b297), (.ref a1_1)]) (st301) ?_
     have v302 : Arv Z h301 b300 k300 .char (1 : Int32) [(.int u5)] (.int (0 : Int32)) := by have q_ := v301; rw [own_lat_ch hl_u5] at q_; exact q_
     have c304 : Exa Z h301 b297 oS0 := ((A297.ext E300).wr W301)
     have c305 : Fld Z h301 b297 oS0 "value" "[B" .null := ((f298.ext E300).other W301 (Or.inl (own_ne (by omega))))
     have c306 : Fld Z h301 b297 oS0 "coder" "B" (.int (0 : Int32)) := ((f299.ext E300).other W301 (Or.inl (own_ne (by omega))))
     have c307 : Sta Z h301 oS0 oS4 "Z" (.int zc) := (((fj293_12.ext E297).ext E300).wr W301)
     obtain ⟨_, _, ⟨T303, LC303, kC303, nC303⟩, -, X303, ⟨Lc303, hQ303, lq303, yq303, zq303⟩, st303⟩ := X301.specialBack hx (y := oM0) rfl hown (mvT hZ (own_hw hw 28)) (mvT hZ (own_hw hw 29)) (mvT hZ (own_hw hw 30)) (by decide) (backOf (W := 2) (rsc_1 l Z a0 hw [] b297 b300 k300 zc u5 h301 n0 (by omega) c304 c305 c306 v302 c307 (by assumption) hl_u5 (by omega) (own_ne (by omega))) hZ (own_hw hw 30) (own_hw hw 2) (by decide) (by decide)) (g := (mkF m 478 #[oi p0, oi p1, oi p2, oi p3, oi 3, oi u5, oi u6, oi u7, oi u8, oR a1_1, oR a1_2, oR b4, oi u12, oi u13, oi u14, oi n15, oR w16, oR w17, oR b19, oR rp, oR er, oR b19] [(.ref b300), (.ref b297), (.ref b297), (.ref a1_1)])) rfl hml.symm (Steps.refl _) (a := b297) (argsL := [(.ref b300)]) (rest := [(.ref b297), (.ref a1_1)]) (lenOf pd_20 rfl) rfl (Nat.le_of_eq rfl) (hb hby at_478) (fun _ _ => ⟨rfl, e301, (by decide : 40 + 1 ≤ _), (by decide : 305 + 1 ≤ _)⟩)
     dsimp only [Pt.U, Pt.locs, Pt.cells, Pt.slots] at X303 lq303 yq303 zq303 st303 hQ303
     subst lq303 yq303 zq303
     obtain ⟨h303, e303⟩ : ∃ z, T303.heap = z := ⟨_, rfl⟩
     rw [e303] at hQ303
     obtain ⟨r_303, kr_303, rfl, Nq303, K303, g303_0, g303_1, g303_2, g303_3, g303_4⟩ := hQ303
     have sz303 : h301.size ≤ h303.size := K303.1
     have N303 := Fr.app N301 Nq303
     have lt303_1 : @LT.lt Nat _ b297 h303.size := g303_0.lt
     have lt303_2 : @LT.lt Nat _ r_303 h303.size := g303_3.lt
     refine ow (oT T303 m 481 #[oi p0, oi p1, oi p2, oi p3, oi 3, oi u5, oi u6, oi u7, oi u8, oR a1_1, oR a1_2, oR b4, oi u12, oi u13, oi u14, oi n15, oR w16, oR w17, oR b19, oR rp, oR er, oR b19] [(.ref b297), (.ref a1_1)]) (fun _ k => st303.trans k) ?_
     have c309 : Sta Z h303 oS0 oS4 "Z" (.int zc) := (own_sta_keep c307 K303 (allS (P := fun x => ∀ c : Cell, h301[x]? = some c → c.vm.isStatics = false) (own_pl_exa c304) all0))
     have c310 : Exa Z h303 a1_1 oS0 := ((((fj293_0.ext E297).ext E300).wr W301).keep K303)
     have c311 : Fld Z h303 a1_1 oS0 "value" "[B" (.ref r_1) := ((((fj293_1.ext E297).ext E300).other W301 (Or.inl (own_ne (by omega)))).keep K303 (ninS (own_ne (by omega)) nin0))
     have c312 : Fld Z h303 a1_1 oS0 "coder" "B" (.int (0 : Int32)) := ((((fj293_2.ext E297).ext E300).other W301 (Or.inl (own_ne (by omega)))).keep K303 (ninS (own_ne (by omega)) nin0))
     have c313 : Arv Z h303 r_1 kr_1 .byte (1 : Int32) [(.int (own_by u5))] (.int (0 : Int32)) := ((((fj293_3.ext E297).ext E300).other W301 (own_ne (by omega))).keep K303 (ninS (own_ne (by omega)) nin0))
     obtain ⟨cq308, kq308, q308a, q308b, q308c⟩ := isOf hZ e303 c310
     obtain ⟨_, _, ⟨T308, LC308, kC308, nC308⟩, -, X308, ⟨Lc308, hQ308, lq308, yq308, zq308⟩, st308⟩ := X303.virtualBack hx (y := oM1) (z := oM1) hown (mvT hZ (own_hw hw 146)) (mvT hZ (own_hw hw 147)) (notFace_of_selects (args := #[]) (mvT hZ (own_hw hw 149))) (mvT hZ (own_hw hw 149)) (mvT hZ (own_hw hw 148)) (by decide) (backOf (W := 0) (rse_gen l Z a0 hw [] a1_1 b297 zc r_1 kr_1 (1 : Int32) [(.int (own_by u5))] r_303 kr_303 h303 n0 (by omega) c309 (by assumption) (own_ne (by omega)) c310 c311 c312 g303_0 g303_1 g303_2 c313 g303_3 (Or.inr (Or.inl ⟨_, rfl, rfl⟩))) hZ (own_hw hw 150) (own_hw hw 2) (by decide) (by decide)) q308a q308c (g := (mkF m 481 #[oi p0, oi p1, oi p2, oi p3, oi 3, oi u5, oi u6, oi u7, oi u8, oR a1_1, oR a1_2, oR b4, oi u12, oi u13, oi u14, oi n15, oR w16, oR w17, oR b19, oR rp, oR er, oR b19] [(.ref b297), (.ref a1_1)])) rfl hml.symm (Steps.refl _) (argsL := [(.ref b297)]) (rest := []) (lenOf pd_24 rfl) rfl (Nat.le_of_eq rfl) (hb hby at_481) (fun _ _ => ⟨rfl, e303, (by decide : 41 + 0 ≤ _), (by decide : 306 + 0 ≤ _)⟩)
     dsimp only [Pt.U, Pt.locs, Pt.cells, Pt.slots] at X308 lq308 yq308 zq308 st308 hQ308
     subst lq308 yq308 zq308
     obtain ⟨rfl, Nq308, eq308⟩ := hQ308
     have N308 := Fr.app N303 Nq308
     refine ow (oT T308 m 484 #[oi p0, oi p1, oi p2, oi p3, oi 3, oi u5, oi u6, oi u7, oi u8, oR a1_1, oR a1_2, oR b4, oi u12, oi u13, oi u14, oi n15, oR w16, oR w17, oR b19, oR rp, oR er, oR b19] [(.int (1 : Int32))]) (fun _ k => st308.trans k) ?_
     have hc314 : ¬ ((1 : Int32) = (0 : Int32)) := by decide
     refine ow (oT T308 m 489 #[oi p0, oi p1, oi p2, oi p3, oi 3, oi u5, oi u6, oi u7, oi u8, oR a1_1, oR a1_2, oR b4, oi u12, oi u13, oi u14, oi n15, oR w16, oR w17, oR b19, oR rp, oR er, oR b19] []) (fun _ k => XS.ifYes X308.here hx rfl (pc0 := 484) (pc' := 489) rfl (hb hby at_484) rfl ((if0 _ _).trans (feq hc314).2) (by decide) (by decide) k) ?_
     have KA315 : Keep hj293 h303 [] := (((((Keep.refl hj293 []).ext E297).ext E300).wr W301 (Or.inr (by omega))).trans K303 (allS (P := fun x => x ∈ [] ∨ hj293.size ≤ x) (Or.inr (by omega)) all0))
     have AS315 := CHr.keep (EL := own_EL) KA315 all0 Aj293.1
     have AA316 := Aj293.trans AS315
     have c317 : Exa Z h303 b19 oS1 := ((((fj293_13.ext E297).ext E300).wr W301).keep K303)
     have c318 : Exa Z h303 a1_2 oS0 := ((((fj293_4.ext E297).ext E300).wr W301).keep K303)
     have c319 : Fld Z h303 a1_2 oS0 "value" "[B" (.ref r_2) := ((((fj293_5.ext E297).ext E300).other W301 (Or.inl (own_ne (by omega)))).keep K303 (ninS (own_ne (by omega)) nin0))
     have c320 : Fld Z h303 a1_2 oS0 "coder" "B" (.int (0 : Int32)) := ((((fj293_6.ext E297).ext E300).other W301 (Or.inl (own_ne (by omega)))).keep K303 (ninS (own_ne (by omega)) nin0))
     have c321 : Arv Z h303 r_2 kr_2 .byte (1 : Int32) [(.int (own_by u6))] (.int (0 : Int32)) := ((((fj293_7.ext E297).ext E300).other W301 (own_ne (by omega))).keep K303 (ninS (own_ne (by omega)) nin0))
     have c322 : Exa Z h303 b4 oS0 := ((((fj293_8.ext E297).ext E300).wr W301).keep K303)
     have c323 : Fld Z h303 b4 oS0 "value" "[B" (.ref r_11) := ((((fj293_9.ext E297).ext E300).other W301 (Or.inl (own_ne (by omega)))).keep K303 (ninS (own_ne (by omega)) nin0))
     have c324 : Fld Z h303 b4 oS0 "coder" "B" (.int (0 : Int32)) := ((((fj293_10.ext E297).ext E300).other W301 (Or.inl (own_ne (by omega)))).keep K303 (ninS (own_ne (by omega)) nin0))
     have c325 : Arv Z h303 r_11 kr_11 .byte (2 : Int32) [(.int (own_by u7)), (.int (own_by u8))] (.int (0 : Int32)) := ((((fj293_11.ext E297).ext E300).other W301 (own_ne (by omega))).keep K303 (ninS (own_ne (by omega)) nin0))
     have c326 : Fld Z h303 b19 oS1 "elementData" oS3 (.ref ea) := ((((fj293_14.ext E297).ext E300).other W301 (Or.inl (own_ne (by omega)))).keep K303 (ninS (own_ne (by omega)) nin0))
     have c327 : Fld Z h303 b19 oS1 "size" "I" (.int (3 : Int32)) := ((((fj293_15.ext E297).ext E300).other W301 (Or.inl (own_ne (by omega)))).keep K303 (ninS (own_ne (by omega)) nin0))
     have c328 : Arv Z h303 ea ke (.object oS2) (10 : Int32) [(.ref a1_1), (.ref a1_2), (.ref b4), .null, .null, .null, .null, .null, .null, .null] .null := ((((fj293_16.ext E297).ext E300).other W301 (own_ne (by omega))).keep K303 (ninS (own_ne (by omega)) nin0))
     exact J489_257 _ _ _ ea ke rp er _ _ (own_widen X308 (by decide) (by decide)) eq308 N308 hSj293 (by omega) hZ hown AA316 (by omega) c310 c311 c312 c313 c318 c319 c320 c321 c322 c323 c324 c325 c309 c317 c326 c327 c328
    refine ow (oT T23 m 326 #[oi p0, oi p1, oi p2, oi p3, oi 3, oi u5, oi u6, oi u7, oi u8, oR a1_1, oR a1_2, oR b4, oi u12, oi u13, oi u14, oi n15, oR w16, oR w17, oR b19, .unset, .unset, .unset] [(.int (3 : Int32))]) (fun _ k => XS.iload X23.here hx rfl (hb hby at_324) rfl k) ?_
    have hc329 : (0 : Int32) < (3 : Int32) := by decide
    refine ow (oT T23 m 329 #[oi p0, oi p1, oi p2, oi p3, oi 3, oi u5, oi u6, oi u7, oi u8, oR a1_1, oR a1_2, oR b4, oi u12, oi u13, oi u14, oi n15, oR w16, oR w17, oR b19, .unset, .unset, .unset] []) (fun _ k => XS.ifNo X23.here hx rfl (hb hby at_326) rfl ((if0 _ _).trans (tlt hc329).2.2.2) k) ?_
    refine ow (oT T23 m 331 #[oi p0, oi p1, oi p2, oi p3, oi 3, oi u5, oi u6, oi u7, oi u8, oR a1_1, oR a1_2, oR b4, oi u12, oi u13, oi u14, oi n15, oR w16, oR w17, oR b19, .unset, .unset, .unset] [(.ref b19)]) (fun _ k => XS.aload X23.here hx rfl (hb hby at_329) rfl rfl k) ?_
    refine ow (oT T23 m 333 #[oi p0, oi p1, oi p2, oi p3, oi 3, oi u5, oi u6, oi u7, oi u8, oR a1_1, oR a1_2, oR b4, oi u12, oi u13, oi u14, oi n15, oR w16, oR w17, oR b19, .unset, .unset, .unset] [(.ref a1_1), (.ref b19)]) (fun _ k => XS.aload X23.here hx rfl (hb hby at_331) rfl rfl k) ?_
    have c331 : Sta Z h23 oS1 oS10 oS3 (.ref de) := (own_sta_keep c24 K23 (allS (P := fun x => ∀ c : Cell, h19[x]? = some c → c.vm.isStatics = false) (own_pl_exa A19) all0))
    have c332 : Arv Z h23 de kde (.object oS2) (0 : Int32) [] .null := ((fj18_2.ext E19).keep K23 (ninS (own_ne (by omega)) nin0))
    have c333 : Exa Z h23 a1_1 oS0 := ((fj18_4.ext E19).keep K23)
    obtain ⟨cq330, kq330, q330a, q330b, q330c⟩ := isOf hZ e23 g23_0
    obtain ⟨_, _, ⟨T330, LC330, kC330, nC330⟩, -, X330, ⟨Lc330, hQ330, lq330, yq330, zq330⟩, st330⟩ := X23.interfaceBack hx (xi := oM22) (y := oM8) hown (mvT hZ (own_hw hw 167)) (mvT hZ (own_hw hw 168)) (mvT hZ (own_hw hw 169)) (mvT hZ (own_hw hw 170)) (mvT hZ (own_hw hw 171)) (mvT hZ (own_hw hw 172)) (mvT hZ (own_hw hw 173)) (mvT hZ (own_hw hw 163)) (by decide) (backOf (W := 0) (rap_0 l Z a0 hw [] b19 (0 : Int32) a1_1 de kde h23 n0 (by omega) g23_0 g23_1 g23_2 g23_3 c331 c332 (by omega) (own_ne (by omega)) c333) hZ (own_hw hw 174) (own_hw hw 46) (by decide) (by decide)) q330a q330b q330c (g := (mkF m 333 #[oi p0, oi p1, oi p2, oi p3, oi 3, oi u5, oi u6, oi u7, oi u8, oR a1_1, oR a1_2, oR b4, oi u12, oi u13, oi u14, oi n15, oR w16, oR w17, oR b19, .unset, .unset, .unset] [(.ref a1_1), (.ref b19)])) rfl hml.symm (Steps.refl _) (argsL := [(.ref a1_1)]) (rest := []) (lenOf pd_24 rfl) rfl (Nat.le_of_eq rfl) (hb hby at_333) (fun _ _ => ⟨rfl, e23, (by decide : 25 + 1 ≤ _), (by decide : 203 + 10 ≤ _)⟩)
    dsimp only [Pt.U, Pt.locs, Pt.cells, Pt.slots] at X330 lq330 yq330 zq330 st330 hQ330
    subst lq330 yq330 zq330
    obtain ⟨h330, e330⟩ : ∃ z, T330.heap = z := ⟨_, rfl⟩
    rw [e330] at hQ330
    obtain ⟨ea_330, ke_330, rfl, Nq330, K330, g330_0, g330_1, g330_2, g330_3, g330_4, g330_5, g330_6⟩ := hQ330
    have sz330 : h23.size ≤ h330.size := K330.1
    have N330 := Fr.app N23 Nq330
    have lt330_1 : @LT.lt Nat _ b19 h330.size := g330_0.lt
    have lt330_2 : @LT.lt Nat _ ea_330 h330.size := g330_4.lt
    refine ow (oT T330 m 338 #[oi p0, oi p1, oi p2, oi p3, oi 3, oi u5, oi u6, oi u7, oi u8, oR a1_1, oR a1_2, oR b4, oi u12, oi u13, oi u14, oi n15, oR w16, oR w17, oR b19, .unset, .unset, .unset] [(.int (1 : Int32))]) (fun _ k => st330.trans k) ?_
    refine ow (oT T330 m 339 #[oi p0, oi p1, oi p2, oi p3, oi 3, oi u5, oi u6, oi u7, oi u8, oR a1_1, oR a1_2, oR b4, oi u12, oi u13, oi u14, oi n15, oR w16, oR w17, oR b19, .unset, .unset, .unset] []) (fun _ k => XS.pop X330.here hx rfl (hb hby at_338) rfl rfl k) ?_
    refine ow (oT T330 m 341 #[oi p0, oi p1, oi p2, oi p3, oi 3, oi u5, oi u6, oi u7, oi u8, oR a1_1, oR a1_2, oR b4, oi u12, oi u13, oi u14, oi n15, oR w16, oR w17, oR b19, .unset, .unset, .unset] [(.int (3 : Int32))]) (fun _ k => XS.iload X330.here hx rfl (hb hby at_339) rfl k) ?_
    refine ow (oT T330 m 342 #[oi p0, oi p1, oi p2, oi p3, oi 3, oi u5, oi u6, oi u7, oi u8, oR a1_1, oR a1_2, oR b4, oi u12, oi u13, oi u14, oi n15, oR w16, oR w17, oR b19, .unset, .unset, .unset] [(.int (1 : Int32)), (.int (3 : Int32))]) (fun _ k => XS.iconst X330.here hx rfl (hb hby at_341) k) ?_
    have hc334 : (1 : Int32) < (3 : Int32) := by decide
    refine ow (oT T330 m 345 #[oi p0, oi p1, oi p2, oi p3, oi 3, oi u5, oi u6, oi u7, oi u8, oR a1_1, oR a1_2, oR b4, oi u12, oi u13, oi u14, oi n15, oR w16, oR w17, oR b19, .unset, .unset, .unset] []) (fun _ k => XS.icmpNo X330.here hx rfl (hb hby at_342) rfl (tlt hc334).2.2.2 k) ?_
    refine ow (oT T330 m 347 #[oi p0, oi p1, oi p2, oi p3, oi 3, oi u5, oi u6, oi u7, oi u8, oR a1_1, oR a1_2, oR b4, oi u12, oi u13, oi u14, oi n15, oR w16, oR w17, oR b19, .unset, .unset, .unset] [(.ref b19)]) (fun _ k => XS.aload X330.here hx rfl (hb hby at_345) rfl rfl k) ?_
    refine ow (oT T330 m 349 #[oi p0, oi p1, oi p2, oi p3, oi 3, oi u5, oi u6, oi u7, oi u8, oR a1_1, oR a1_2, oR b4, oi u12, oi u13, oi u14, oi n15, oR w16, oR w17, oR b19, .unset, .unset, .unset] [(.ref a1_2), (.ref b19)]) (fun _ k => XS.aload X330.here hx rfl (hb hby at_347) rfl rfl k) ?_
    have c336 : Exa Z h330 a1_2 oS0 := (((fj18_8.ext E19).keep K23).keep K330)
    obtain ⟨cq335, kq335, q335a, q335b, q335c⟩ := isOf hZ e330 g330_0
    obtain ⟨_, _, ⟨T335, LC335, kC335, nC335⟩, -, X335, ⟨Lc335, hQ335, lq335, yq335, zq335⟩, st335⟩ := X330.interfaceBack hx (xi := oM22) (y := oM8) hown (mvT hZ (own_hw hw 167)) (mvT hZ (own_hw hw 168)) (mvT hZ (own_hw hw 169)) (mvT hZ (own_hw hw 170)) (mvT hZ (own_hw hw 171)) (mvT hZ (own_hw hw 172)) (mvT hZ (own_hw hw 173)) (mvT hZ (own_hw hw 163)) (by decide) (backOf (W := 0) (rap_1 l Z a0 hw [] b19 ((0 : Int32) + (1 : Int32)) a1_2 ea_330 ke_330 (.ref a1_1) h330 n0 (by omega) g330_0 g330_1 g330_2 g330_3 g330_4 g330_5 (by omega) (by omega) (own_ne (by omega)) c336) hZ (own_hw hw 174) (own_hw hw 46) (by decide) (by decide)) q335a q335b q335c (g := (mkF m 349 #[oi p0, oi p1, oi p2, oi p3, oi 3, oi u5, oi u6, oi u7, oi u8, oR a1_1, oR a1_2, oR b4, oi u12, oi u13, oi u14, oi n15, oR w16, oR w17, oR b19, .unset, .unset, .unset] [(.ref a1_2), (.ref b19)])) rfl hml.symm (Steps.refl _) (argsL := [(.ref a1_2)]) (rest := []) (lenOf pd_24 rfl) rfl (Nat.le_of_eq rfl) (hb hby at_349) (fun _ _ => ⟨rfl, e330, (by decide : 26 + 0 ≤ _), (by decide : 213 + 0 ≤ _)⟩)
    dsimp only [Pt.U, Pt.locs, Pt.cells, Pt.slots] at X335 lq335 yq335 zq335 st335 hQ335
    subst lq335 yq335 zq335
    obtain ⟨h335, e335⟩ : ∃ z, T335.heap = z := ⟨_, rfl⟩
    rw [e335] at hQ335
    obtain ⟨rfl, Nq335, K335, g335_0, g335_1, g335_2, g335_3, g335_4, g335_5⟩ := hQ335
    have sz335 : h330.size ≤ h335.size := K335.1
    have N335 := Fr.app N330 Nq335
    have lt335_1 : @LT.lt Nat _ b19 h335.size := g335_0.lt
    have lt335_2 : @LT.lt Nat _ ea_330 h335.size := g335_4.lt
    refine ow (oT T335 m 354 #[oi p0, oi p1, oi p2, oi p3, oi 3, oi u5, oi u6, oi u7, oi u8, oR a1_1, oR a1_2, oR b4, oi u12, oi u13, oi u14, oi n15, oR w16, oR w17, oR b19, .unset, .unset, .unset] [(.int (1 : Int32))]) (fun _ k => st335.trans k) ?_
    refine ow (oT T335 m 355 #[oi p0, oi p1, oi p2, oi p3, oi 3, oi u5, oi u6, oi u7, oi u8, oR a1_1, oR a1_2, oR b4, oi u12, oi u13, oi u14, oi n15, oR w16, oR w17, oR b19, .unset, .unset, .unset] []) (fun _ k => XS.pop X335.here hx rfl (hb hby at_354) rfl rfl k) ?_
    refine ow (oT T335 m 357 #[oi p0, oi p1, oi p2, oi p3, oi 3, oi u5, oi u6, oi u7, oi u8, oR a1_1, oR a1_2, oR b4, oi u12, oi u13, oi u14, oi n15, oR w16, oR w17, oR b19, .unset, .unset, .unset] [(.int (3 : Int32))]) (fun _ k => XS.iload X335.here hx rfl (hb hby at_355) rfl k) ?_
    refine ow (oT T335 m 358 #[oi p0, oi p1, oi p2, oi p3, oi 3, oi u5, oi u6, oi u7, oi u8, oR a1_1, oR a1_2, oR b4, oi u12, oi u13, oi u14, oi n15, oR w16, oR w17, oR b19, .unset, .unset, .unset] [(.int (2 : Int32)), (.int (3 : Int32))]) (fun _ k => XS.iconst X335.here hx rfl (hb hby at_357) k) ?_
    have hc337 : (2 : Int32) < (3 : Int32) := by decide
    refine ow (oT T335 m 361 #[oi p0, oi p1, oi p2, oi p3, oi 3, oi u5, oi u6, oi u7, oi u8, oR a1_1, oR a1_2, oR b4, oi u12, oi u13, oi u14, oi n15, oR w16, oR w17, oR b19, .unset, .unset, .unset] []) (fun _ k => XS.icmpNo X335.here hx rfl (hb hby at_358) rfl (tlt hc337).2.2.2 k) ?_
    refine ow (oT T335 m 363 #[oi p0, oi p1, oi p2, oi p3, oi 3, oi u5, oi u6, oi u7, oi u8, oR a1_1, oR a1_2, oR b4, oi u12, oi u13, oi u14, oi n15, oR w16, oR w17, oR b19, .unset, .unset, .unset] [(.ref b19)]) (fun _ k => XS.aload X335.here hx rfl (hb hby at_361) rfl rfl k) ?_
    refine ow (oT T335 m 365 #[oi p0, oi p1, oi p2, oi p3, oi 3, oi u5, oi u6, oi u7, oi u8, oR a1_1, oR a1_2, oR b4, oi u12, oi u13, oi u14, oi n15, oR w16, oR w17, oR b19, .unset, .unset, .unset] [(.ref b4), (.ref b19)]) (fun _ k => XS.aload X335.here hx rfl (hb hby at_363) rfl rfl k) ?_
    have c339 : Exa Z h335 b4 oS0 := ((((fj18_12.ext E19).keep K23).keep K330).keep K335)
    obtain ⟨cq338, kq338, q338a, q338b, q338c⟩ := isOf hZ e335 g335_0
    obtain ⟨_, _, ⟨T338, LC338, kC338, nC338⟩, -, X338, ⟨Lc338, hQ338, lq338, yq338, zq338⟩, st338⟩ := X335.interfaceBack hx (xi := oM22) (y := oM8) hown (mvT hZ (own_hw hw 167)) (mvT hZ (own_hw hw 168)) (mvT hZ (own_hw hw 169)) (mvT hZ (own_hw hw 170)) (mvT hZ (own_hw hw 171)) (mvT hZ (own_hw hw 172)) (mvT hZ (own_hw hw 173)) (mvT hZ (own_hw hw 163)) (by decide) (backOf (W := 0) (rap_2 l Z a0 hw [] b19 (((0 : Int32) + (1 : Int32)) + (1 : Int32)) b4 ea_330 ke_330 (.ref a1_1) (.ref a1_2) h335 n0 (by omega) g335_0 g335_1 g335_2 g335_3 g335_4 g335_5 (by omega) (by omega) (own_ne (by omega)) c339) hZ (own_hw hw 174) (own_hw hw 46) (by decide) (by decide)) q338a q338b q338c (g := (mkF m 365 #[oi p0, oi p1, oi p2, oi p3, oi 3, oi u5, oi u6, oi u7, oi u8, oR a1_1, oR a1_2, oR b4, oi u12, oi u13, oi u14, oi n15, oR w16, oR w17, oR b19, .unset, .unset, .unset] [(.ref b4), (.ref b19)])) rfl hml.symm (Steps.refl _) (argsL := [(.ref b4)]) (rest := []) (lenOf pd_24 rfl) rfl (Nat.le_of_eq rfl) (hb hby at_365) (fun _ _ => ⟨rfl, e335, (by decide : 26 + 0 ≤ _), (by decide : 213 + 0 ≤ _)⟩)
    dsimp only [Pt.U, Pt.locs, Pt.cells, Pt.slots] at X338 lq338 yq338 zq338 st338 hQ338
    subst lq338 yq338 zq338
    obtain ⟨h338, e338⟩ : ∃ z, T338.heap = z := ⟨_, rfl⟩
    rw [e338] at hQ338
    obtain ⟨rfl, Nq338, K338, g338_0, g338_1, g338_2, g338_3, g338_4, g338_5⟩ := hQ338
    have sz338 : h335.size ≤ h338.size := K338.1
    have N338 := Fr.app N335 Nq338
    have lt338_1 : @LT.lt Nat _ b19 h338.size := g338_0.lt
    have lt338_2 : @LT.lt Nat _ ea_330 h338.size := g338_4.lt
    refine ow (oT T338 m 370 #[oi p0, oi p1, oi p2, oi p3, oi 3, oi u5, oi u6, oi u7, oi u8, oR a1_1, oR a1_2, oR b4, oi u12, oi u13, oi u14, oi n15, oR w16, oR w17, oR b19, .unset, .unset, .unset] [(.int (1 : Int32))]) (fun _ k => st338.trans k) ?_
    refine ow (oT T338 m 371 #[oi p0, oi p1, oi p2, oi p3, oi 3, oi u5, oi u6, oi u7, oi u8, oR a1_1, oR a1_2, oR b4, oi u12, oi u13, oi u14, oi n15, oR w16, oR w17, oR b19, .unset, .unset, .unset] []) (fun _ k => XS.pop X338.here hx rfl (hb hby at_370) rfl rfl k) ?_
    refine ow (oT T338 m 373 #[oi p0, oi p1, oi p2, oi p3, oi 3, oi u5, oi u6, oi u7, oi u8, oR a1_1, oR a1_2, oR b4, oi u12, oi u13, oi u14, oi n15, oR w16, oR w17, oR b19, .unset, .unset, .unset] [(.ref b19)]) (fun _ k => XS.aload X338.here hx rfl (hb hby at_371) rfl rfl k) ?_
    refine ow (oT T338 m 375 #[oi p0, oi p1, oi p2, oi p3, oi 3, oi u5, oi u6, oi u7, oi u8, oR a1_1, oR a1_2, oR b4, oi u12, oi u13, oi u14, oi n15, oR w16, oR w17, oR b19, .unset, .unset, .unset] [(.ref w16), (.ref b19)]) (fun _ k => XS.aload X338.here hx rfl (hb hby at_373) rfl rfl k) ?_
    have c341 : Sta Z h338 oS7 "EMPTY" oS5 (.ref em) := (own_sta_keep (own_sta_keep (own_sta_keep (own_sta_keep (fj18_3.ext E19) K23 (allS (P := fun x => ∀ c : Cell, h19[x]? = some c → c.vm.isStatics = false) (own_pl_exa A19) all0)) K330 (allS (P := fun x => ∀ c : Cell, h23[x]? = some c → c.vm.isStatics = false) (own_pl_exa g23_0) all0)) K335 (allS (P := fun x => ∀ c : Cell, h330[x]? = some c → c.vm.isStatics = false) (own_pl_exa g330_0) (allS (P := fun x => ∀ c : Cell, h330[x]? = some c → c.vm.isStatics = false) (own_pl_arv g330_4) all0))) K338 (allS (P := fun x => ∀ c : Cell, h335[x]? = some c → c.vm.isStatics = false) (own_pl_exa g335_0) (allS (P := fun x => ∀ c : Cell, h335[x]? = some c → c.vm.isStatics = false) (own_pl_arv g335_4) all0)))
    obtain ⟨_, _, ⟨T340, LC340, kC340, nC340⟩, -, X340, ⟨Lc340, hQ340, lq340, yq340, zq340⟩, st340⟩ := Jvm.LawKit.callS X338 hx (y := oM19) hown (mvT hZ (own_hw hw 68)) (mvT hZ (own_hw hw 69)) (mvT hZ (own_hw hw 70)) (mvT hZ (own_hw hw 71)) (by decide) (backOf (W := 0) (rm14 l Z a0 hw [] b19 w16 em h338 n0 (by omega) c341) hZ (own_hw hw 71) (own_hw hw 70) (by decide) (by decide)) (g := (mkF m 375 #[oi p0, oi p1, oi p2, oi p3, oi 3, oi u5, oi u6, oi u7, oi u8, oR a1_1, oR a1_2, oR b4, oi u12, oi u13, oi u14, oi n15, oR w16, oR w17, oR b19, .unset, .unset, .unset] [(.ref w16), (.ref b19)])) rfl hml.symm (argsL := [(.ref b19), (.ref w16)]) (rest := []) (lenOf pd_21 rfl) rfl (Nat.le_of_eq rfl) (hb hby at_375) (fun _ _ => ⟨rfl, e338, (by decide : 26 + 2 ≤ _), (by decide : 213 + 5 ≤ _)⟩)
    dsimp only [Pt.U, Pt.locs, Pt.cells, Pt.slots] at X340 lq340 yq340 zq340 st340 hQ340
    subst lq340 yq340 zq340
    obtain ⟨h340, e340⟩ : ∃ z, T340.heap = z := ⟨_, rfl⟩
    rw [e340] at hQ340
    obtain ⟨rp_340, r_340, rfl, Nq340, K340, g340_0, g340_1, g340_2, g340_3, g340_4, g340_5, g340_6, g340_7, g340_8⟩ := hQ340
    have sz340 : h338.size ≤ h340.size := K340.1
    have N340 := Fr.app N338 Nq340
    have lt340_1 : @LT.lt Nat _ rp_340 h340.size := g340_0.lt
    have lt340_2 : @LT.lt Nat _ r_340 h340.size := g340_4.lt
    refine ow (oT T340 m 378 #[oi p0, oi p1, oi p2, oi p3, oi 3, oi u5, oi u6, oi u7, oi u8, oR a1_1, oR a1_2, oR b4, oi u12, oi u13, oi u14, oi n15, oR w16, oR w17, oR b19, .unset, .unset, .unset] [(.ref rp_340)]) (fun t k => st340 t k) ?_
    refine ow (oT T340 m 380 #[oi p0, oi p1, oi p2, oi p3, oi 3, oi u5, oi u6, oi u7, oi u8, oR a1_1, oR a1_2, oR b4, oi u12, oi u13, oi u14, oi n15, oR w16, oR w17, oR b19, oR rp_340, .unset, .unset] []) (fun _ k => XS.astore X340.here hx rfl (hb hby at_378) rfl rfl (l' := #[oi p0, oi p1, oi p2, oi p3, oi 3, oi u5, oi u6, oi u7, oi u8, oR a1_1, oR a1_2, oR b4, oi u12, oi u13, oi u14, oi n15, oR w16, oR w17, oR b19, oR rp_340, .unset, .unset]) rfl k) ?_
    refine ow (oT T340 m 382 #[oi p0, oi p1, oi p2, oi p3, oi 3, oi u5, oi u6, oi u7, oi u8, oR a1_1, oR a1_2, oR b4, oi u12, oi u13, oi u14, oi n15, oR w16, oR w17, oR b19, oR rp_340, .unset, .unset] [(.ref rp_340)]) (fun _ k => XS.aload X340.here hx rfl (hb hby at_380) rfl rfl k) ?_
    obtain ⟨cq342, kq342, q342a, q342b, q342c⟩ := isOf hZ e340 g340_0
    obtain ⟨_, _, ⟨T342, LC342, kC342, nC342⟩, -, X342, ⟨Lc342, hQ342, lq342, yq342, zq342⟩, st342⟩ := X340.virtualBack hx (y := oM9) (z := oM9) hown (mvT hZ (own_hw hw 119)) (mvT hZ (own_hw hw 120)) (notFace_of_selects (args := #[]) (mvT hZ (own_hw hw 122))) (mvT hZ (own_hw hw 122)) (mvT hZ (own_hw hw 121)) (by decide) (backOf (W := 0) (rm21 l Z a0 hw [] rp_340 (0 : Int32) h340 n0 (by omega) g340_1) hZ (own_hw hw 123) (own_hw hw 70) (by decide) (by decide)) q342a q342c (g := (mkF m 382 #[oi p0, oi p1, oi p2, oi p3, oi 3, oi u5, oi u6, oi u7, oi u8, oR a1_1, oR a1_2, oR b4, oi u12, oi u13, oi u14, oi n15, oR w16, oR w17, oR b19, oR rp_340, .unset, .unset] [(.ref rp_340)])) rfl hml.symm (Steps.refl _) (argsL := []) (rest := []) (lenOf pd_22 rfl) rfl (Nat.le_of_eq rfl) (hb hby at_382) (fun _ _ => ⟨rfl, e340, (by decide : 28 + 0 ≤ _), (by decide : 218 + 0 ≤ _)⟩)
    dsimp only [Pt.U, Pt.locs, Pt.cells, Pt.slots] at X342 lq342 yq342 zq342 st342 hQ342
    subst lq342 yq342 zq342
    obtain ⟨rfl, Nq342, eq342⟩ := hQ342
    have N342 := Fr.app N340 Nq342
    refine ow (oT T342 m 385 #[oi p0, oi p1, oi p2, oi p3, oi 3, oi u5, oi u6, oi u7, oi u8, oR a1_1, oR a1_2, oR b4, oi u12, oi u13, oi u14, oi n15, oR w16, oR w17, oR b19, oR rp_340, .unset, .unset] [(.int (0 : Int32))]) (fun _ k => st342.trans k) ?_
    have hc343 : (0 : Int32) = (0 : Int32) := by decide
    refine ow (oT T342 m 390 #[oi p0, oi p1, oi p2, oi p3, oi 3, oi u5, oi u6, oi u7, oi u8, oR a1_1, oR a1_2, oR b4, oi u12, oi u13, oi u14, oi n15, oR w16, oR w17, oR b19, oR rp_340, .unset, .unset] []) (fun _ k => XS.ifYes X342.here hx rfl (pc0 := 385) (pc' := 390) rfl (hb hby at_385) rfl ((if0 _ _).trans (teq hc343).1) (by decide) (by decide) k) ?_
    refine ow (oT T342 m 392 #[oi p0, oi p1, oi p2, oi p3, oi 3, oi u5, oi u6, oi u7, oi u8, oR a1_1, oR a1_2, oR b4, oi u12, oi u13, oi u14, oi n15, oR w16, oR w17, oR b19, oR rp_340, .unset, .unset] [(.ref rp_340)]) (fun _ k => XS.aload X342.here hx rfl (hb hby at_390) rfl rfl k) ?_
    obtain ⟨cq344, kq344, q344a, q344b, q344c⟩ := isOf hZ eq342 g340_0
    obtain ⟨_, _, ⟨T344, LC344, kC344, nC344⟩, -, X344, ⟨Lc344, hQ344, lq344, yq344, zq344⟩, st344⟩ := X342.virtualBack hx (y := oM10) (z := oM10) hown (mvT hZ (own_hw hw 124)) (mvT hZ (own_hw hw 125)) (notFace_of_selects (args := #[]) (mvT hZ (own_hw hw 127))) (mvT hZ (own_hw hw 127)) (mvT hZ (own_hw hw 126)) (by decide) (backOf (W := 0) (rm22 l Z a0 hw [] rp_340 r_340 h340 n0 (by omega) g340_3) hZ (own_hw hw 128) (own_hw hw 70) (by decide) (by decide)) q344a q344c (g := (mkF m 392 #[oi p0, oi p1, oi p2, oi p3, oi 3, oi u5, oi u6, oi u7, oi u8, oR a1_1, oR a1_2, oR b4, oi u12, oi u13, oi u14, oi n15, oR w16, oR w17, oR b19, oR rp_340, .unset, .unset] [(.ref rp_340)])) rfl hml.symm (Steps.refl _) (argsL := []) (rest := []) (lenOf pd_23 rfl) rfl (Nat.le_of_eq rfl) (hb hby at_392) (fun _ _ => ⟨rfl, eq342, (by decide : 28 + 0 ≤ _), (by decide : 218 + 0 ≤ _)⟩)
    dsimp only [Pt.U, Pt.locs, Pt.cells, Pt.slots] at X344 lq344 yq344 zq344 st344 hQ344
    subst lq344 yq344 zq344
    obtain ⟨rfl, Nq344, eq344⟩ := hQ344
    have N344 := Fr.app N342 Nq344
    refine ow (oT T344 m 395 #[oi p0, oi p1, oi p2, oi p3, oi 3, oi u5, oi u6, oi u7, oi u8, oR a1_1, oR a1_2, oR b4, oi u12, oi u13, oi u14, oi n15, oR w16, oR w17, oR b19, oR rp_340, .unset, .unset] [(.ref r_340)]) (fun _ k => st344.trans k) ?_
    refine ow (oT T344 m 397 #[oi p0, oi p1, oi p2, oi p3, oi 3, oi u5, oi u6, oi u7, oi u8, oR a1_1, oR a1_2, oR b4, oi u12, oi u13, oi u14, oi n15, oR w16, oR w17, oR b19, oR rp_340, oR r_340, .unset] []) (fun _ k => XS.astore X344.here hx rfl (hb hby at_395) rfl rfl (l' := #[oi p0, oi p1, oi p2, oi p3, oi 3, oi u5, oi u6, oi u7, oi u8, oR a1_1, oR a1_2, oR b4, oi u12, oi u13, oi u14, oi n15, oR w16, oR w17, oR b19, oR rp_340, oR r_340, .unset]) rfl k) ?_
    refine ow (oT T344 m 399 #[oi p0, oi p1, oi p2, oi p3, oi 3, oi u5, oi u6, oi u7, oi u8, oR a1_1, oR a1_2, oR b4, oi u12, oi u13, oi u14, oi n15, oR w16, oR w17, oR b19, oR rp_340, oR r_340, .unset] [(.ref r_340)]) (fun _ k => XS.aload X344.here hx rfl (hb hby at_397) rfl rfl k) ?_
    have c346 : Sta Z h340 oS7 "EMPTY" oS5 (.ref em) := (own_sta_keep c341 K340 all0)
    obtain ⟨cq345, kq345, q345a, q345b, q345c⟩ := isOf hZ eq344 g340_4
    obtain ⟨_, _, ⟨T345, LC345, kC345, nC345⟩, -, X345, ⟨Lc345, hQ345, lq345, yq345, zq345⟩, st345⟩ := X344.interfaceBack hx (xi := oM17) (y := oM20) hown (mvT hZ (own_hw hw 129)) (mvT hZ (own_hw hw 130)) (mvT hZ (own_hw hw 131)) (mvT hZ (own_hw hw 132)) (mvT hZ (own_hw hw 133)) (mvT hZ (own_hw hw 134)) (mvT hZ (own_hw hw 135)) (mvT hZ (own_hw hw 136)) (by decide) (backOf (W := 0) (rm23 l Z a0 hw [] r_340 em h340 n0 (by omega) g340_6 c346) hZ (own_hw hw 137) (own_hw hw 80) (by decide) (by decide)) q345a q345b q345c (g := (mkF m 399 #[oi p0, oi p1, oi p2, oi p3, oi 3, oi u5, oi u6, oi u7, oi u8, oR a1_1, oR a1_2, oR b4, oi u12, oi u13, oi u14, oi n15, oR w16, oR w17, oR b19, oR rp_340, oR r_340, .unset] [(.ref r_340)])) rfl hml.symm (Steps.refl _) (argsL := []) (rest := []) (lenOf pd_22 rfl) rfl (Nat.le_of_eq rfl) (hb hby at_399) (fun _ _ => ⟨rfl, eq344, (by decide : 28 + 0 ≤ _), (by decide : 218 + 0 ≤ _)⟩)
    dsimp only [Pt.U, Pt.locs, Pt.cells, Pt.slots] at X345 lq345 yq345 zq345 st345 hQ345
    subst lq345 yq345 zq345
    obtain ⟨rfl, Nq345, eq345⟩ := hQ345
    have N345 := Fr.app N344 Nq345
    refine ow (oT T345 m 404 #[oi p0, oi p1, oi p2, oi p3, oi 3, oi u5, oi u6, oi u7, oi u8, oR a1_1, oR a1_2, oR b4, oi u12, oi u13, oi u14, oi n15, oR w16, oR w17, oR b19, oR rp_340, oR r_340, .unset] [(.int (1 : Int32))]) (fun _ k => st345.trans k) ?_
    refine ow (oT T345 m 405 #[oi p0, oi p1, oi p2, oi p3, oi 3, oi u5, oi u6, oi u7, oi u8, oR a1_1, oR a1_2, oR b4, oi u12, oi u13, oi u14, oi n15, oR w16, oR w17, oR b19, oR rp_340, oR r_340, .unset] [(.int (1 : Int32)), (.int (1 : Int32))]) (fun _ k => XS.iconst X345.here hx rfl (hb hby at_404) k) ?_
    have hc347 : (1 : Int32) = (1 : Int32) := by decide
    refine ow (oT T345 m 408 #[oi p0, oi p1, oi p2, oi p3, oi 3, oi u5, oi u6, oi u7, oi u8, oR a1_1, oR a1_2, oR b4, oi u12, oi u13, oi u14, oi n15, oR w16, oR w17, oR b19, oR rp_340, oR r_340, .unset] []) (fun _ k => XS.icmpNo X345.here hx rfl (hb hby at_405) rfl (teq hc347).2 k) ?_
    refine ow (oT T345 m 410 #[oi p0, oi p1, oi p2, oi p3, oi 3, oi u5, oi u6, oi u7, oi u8, oR a1_1, oR a1_2, oR b4, oi u12, oi u13, oi u14, oi n15, oR w16, oR w17, oR b19, oR rp_340, oR r_340, .unset] [(.ref r_340)]) (fun _ k => XS.aload X345.here hx rfl (hb hby at_408) rfl rfl k) ?_
    refine ow (oT T345 m 411 #[oi p0, oi p1, oi p2, oi p3, oi 3, oi u5, oi u6, oi u7, oi u8, oR a1_1, oR a1_2, oR b4, oi u12, oi u13, oi u14, oi n15, oR w16, oR w17, oR b19, oR rp_340, oR r_340, .unset] [(.int (0 : Int32)), (.ref r_340)]) (fun _ k => XS.iconst X345.here hx rfl (hb hby at_410) k) ?_
    obtain ⟨cq348, kq348, q348a, q348b, q348c⟩ := isOf hZ eq345 g340_4
    obtain ⟨_, _, ⟨T348, LC348, kC348, nC348⟩, -, X348, ⟨Lc348, hQ348, lq348, yq348, zq348⟩, st348⟩ := X345.interfaceBack hx (xi := oM12) (y := oM21) hown (mvT hZ (own_hw hw 138)) (mvT hZ (own_hw hw 139)) (mvT hZ (own_hw hw 140)) (mvT hZ (own_hw hw 141)) (mvT hZ (own_hw hw 142)) (mvT hZ (own_hw hw 143)) (mvT hZ (own_hw hw 144)) (mvT hZ (own_hw hw 136)) (by decide) (backOf (W := 0) (rm24 l Z a0 hw [] r_340 w16 h340 n0 (by omega) g340_5) hZ (own_hw hw 145) (own_hw hw 80) (by decide) (by decide)) q348a q348b q348c (g := (mkF m 411 #[oi p0, oi p1, oi p2, oi p3, oi 3, oi u5, oi u6, oi u7, oi u8, oR a1_1, oR a1_2, oR b4, oi u12, oi u13, oi u14, oi n15, oR w16, oR w17, oR b19, oR rp_340, oR r_340, .unset] [(.int (0 : Int32)), (.ref r_340)])) rfl hml.symm (Steps.refl _) (argsL := [(.int (0 : Int32))]) (rest := []) (lenOf pd_14 rfl) rfl (Nat.le_of_eq rfl) (hb hby at_411) (fun _ _ => ⟨rfl, eq345, (by decide : 28 + 0 ≤ _), (by decide : 218 + 0 ≤ _)⟩)
    dsimp only [Pt.U, Pt.locs, Pt.cells, Pt.slots] at X348 lq348 yq348 zq348 st348 hQ348
    subst lq348 yq348 zq348
    obtain ⟨rfl, Nq348, eq348⟩ := hQ348
    have N348 := Fr.app N345 Nq348
    refine ow (oT T348 m 416 #[oi p0, oi p1, oi p2, oi p3, oi 3, oi u5, oi u6, oi u7, oi u8, oR a1_1, oR a1_2, oR b4, oi u12, oi u13, oi u14, oi n15, oR w16, oR w17, oR b19, oR rp_340, oR r_340, .unset] [(.ref w16)]) (fun _ k => st348.trans k) ?_
    have c350 : Exa Z h340 w16 oS0 := ((((((fj18_16.ext E19).keep K23).keep K330).keep K335).keep K338).keep K340)
    obtain ⟨T349, X349, e349, st349⟩ := castY X348 hx hZ hown (own_hw hw 26) eq348 (Ins.self c350) (g := (mkF m 416 #[oi p0, oi p1, oi p2, oi p3, oi 3, oi u5, oi u6, oi u7, oi u8, oR a1_1, oR a1_2, oR b4, oi u12, oi u13, oi u14, oi n15, oR w16, oR w17, oR b19, oR rp_340, oR r_340, .unset] [(.ref w16)])) rfl rfl (hb hby at_416)
    refine ow (oT T349 m 419 #[oi p0, oi p1, oi p2, oi p3, oi 3, oi u5, oi u6, oi u7, oi u8, oR a1_1, oR a1_2, oR b4, oi u12, oi u13, oi u14, oi n15, oR w16, oR w17, oR b19, oR rp_340, oR r_340, .unset] [(.ref w16)]) (st349) ?_
    refine ow (oT T349 m 421 #[oi p0, oi p1, oi p2, oi p3, oi 3, oi u5, oi u6, oi u7, oi u8, oR a1_1, oR a1_2, oR b4, oi u12, oi u13, oi u14, oi n15, oR w16, oR w17, oR b19, oR rp_340, oR r_340, .unset] [(.ref w17), (.ref w16)]) (fun _ k => XS.aload X349.here hx rfl (hb hby at_419) rfl rfl k) ?_
    have c352 : Sta Z h340 oS0 oS4 "Z" (.int zc) := (own_sta_keep (own_sta_keep (own_sta_keep (own_sta_keep (own_sta_keep (fj18_0.ext E19) K23 (allS (P := fun x => ∀ c : Cell, h19[x]? = some c → c.vm.isStatics = false) (own_pl_exa A19) all0)) K330 (allS (P := fun x => ∀ c : Cell, h23[x]? = some c → c.vm.isStatics = false) (own_pl_exa g23_0) all0)) K335 (allS (P := fun x => ∀ c : Cell, h330[x]? = some c → c.vm.isStatics = false) (own_pl_exa g330_0) (allS (P := fun x => ∀ c : Cell, h330[x]? = some c → c.vm.isStatics = false) (own_pl_arv g330_4) all0))) K338 (allS (P := fun x => ∀ c : Cell, h335[x]? = some c → c.vm.isStatics = false) (own_pl_exa g335_0) (allS (P := fun x => ∀ c : Cell, h335[x]? = some c → c.vm.isStatics = false) (own_pl_arv g335_4) all0))) K340 all0)
    have c353 : Fld Z h340 w16 oS0 "value" "[B" (.ref r16) := ((((((fj18_17.ext E19).keep K23 (ninS (own_ne (by omega)) nin0)).keep K330 (ninS (own_ne (by omega)) nin0)).keep K335 (ninS (own_ne (by omega)) (ninS (own_ne (by omega)) nin0))).keep K338 (ninS (own_ne (by omega)) (ninS (own_ne (by omega)) nin0))).keep K340 nin0)
    have c354 : Fld Z h340 w16 oS0 "coder" "B" (.int (0 : Int32)) := ((((((fj18_18.ext E19).keep K23 (ninS (own_ne (by omega)) nin0)).keep K330 (ninS (own_ne (by omega)) nin0)).keep K335 (ninS (own_ne (by omega)) (ninS (own_ne (by omega)) nin0))).keep K338 (ninS (own_ne (by omega)) (ninS (own_ne (by omega)) nin0))).keep K340 nin0)
    have c355 : Exa Z h340 w17 oS0 := ((((((fj18_20.ext E19).keep K23).keep K330).keep K335).keep K338).keep K340)
    have c356 : Fld Z h340 w17 oS0 "value" "[B" (.ref r17) := ((((((fj18_21.ext E19).keep K23 (ninS (own_ne (by omega)) nin0)).keep K330 (ninS (own_ne (by omega)) nin0)).keep K335 (ninS (own_ne (by omega)) (ninS (own_ne (by omega)) nin0))).keep K338 (ninS (own_ne (by omega)) (ninS (own_ne (by omega)) nin0))).keep K340 nin0)
    have c357 : Fld Z h340 w17 oS0 "coder" "B" (.int (0 : Int32)) := ((((((fj18_22.ext E19).keep K23 (ninS (own_ne (by omega)) nin0)).keep K330 (ninS (own_ne (by omega)) nin0)).keep K335 (ninS (own_ne (by omega)) (ninS (own_ne (by omega)) nin0))).keep K338 (ninS (own_ne (by omega)) (ninS (own_ne (by omega)) nin0))).keep K340 nin0)
    have c358 : Arv Z h340 r16 k16 .byte n15 (own_bs n15 u12 u13 u14) (.int (0 : Int32)) := ((((((fj18_19.ext E19).keep K23 (ninS (own_ne (by omega)) nin0)).keep K330 (ninS (own_ne (by omega)) nin0)).keep K335 (ninS (own_ne (by omega)) (ninS (own_ne (by omega)) nin0))).keep K338 (ninS (own_ne (by omega)) (ninS (own_ne (by omega)) nin0))).keep K340 nin0)
    have c359 : Arv Z h340 r17 k17 .byte n15 (own_bs n15 u12 u13 u14) (.int (0 : Int32)) := ((((((fj18_23.ext E19).keep K23 (ninS (own_ne (by omega)) nin0)).keep K330 (ninS (own_ne (by omega)) nin0)).keep K335 (ninS (own_ne (by omega)) (ninS (own_ne (by omega)) nin0))).keep K338 (ninS (own_ne (by omega)) (ninS (own_ne (by omega)) nin0))).keep K340 nin0)
    obtain ⟨cq351, kq351, q351a, q351b, q351c⟩ := isOf hZ e349 c350
    obtain ⟨_, _, ⟨T351, LC351, kC351, nC351⟩, -, X351, ⟨Lc351, hQ351, lq351, yq351, zq351⟩, st351⟩ := X349.virtualBack hx (y := oM1) (z := oM1) hown (mvT hZ (own_hw hw 146)) (mvT hZ (own_hw hw 147)) (notFace_of_selects (args := #[]) (mvT hZ (own_hw hw 149))) (mvT hZ (own_hw hw 149)) (mvT hZ (own_hw hw 148)) (by decide) (backOf (W := 0) (rse_gen l Z a0 hw [] w16 w17 zc r16 k16 n15 (own_bs n15 u12 u13 u14) r17 k17 h340 n0 (by omega) c352 (by assumption) (own_ne (by omega)) c350 c353 c354 c355 c356 c357 c358 c359 (own_bs_sh ht_n15)) hZ (own_hw hw 150) (own_hw hw 2) (by decide) (by decide)) q351a q351c (g := (mkF m 421 #[oi p0, oi p1, oi p2, oi p3, oi 3, oi u5, oi u6, oi u7, oi u8, oR a1_1, oR a1_2, oR b4, oi u12, oi u13, oi u14, oi n15, oR w16, oR w17, oR b19, oR rp_340, oR r_340, .unset] [(.ref w17), (.ref w16)])) rfl hml.symm (Steps.refl _) (argsL := [(.ref w17)]) (rest := []) (lenOf pd_24 rfl) rfl (Nat.le_of_eq rfl) (hb hby at_421) (fun _ _ => ⟨rfl, e349, (by decide : 28 + 0 ≤ _), (by decide : 218 + 0 ≤ _)⟩)
    dsimp only [Pt.U, Pt.locs, Pt.cells, Pt.slots] at X351 lq351 yq351 zq351 st351 hQ351
    subst lq351 yq351 zq351
    obtain ⟨rfl, Nq351, eq351⟩ := hQ351
    have N351 := Fr.app N348 Nq351
    refine ow (oT T351 m 424 #[oi p0, oi p1, oi p2, oi p3, oi 3, oi u5, oi u6, oi u7, oi u8, oR a1_1, oR a1_2, oR b4, oi u12, oi u13, oi u14, oi n15, oR w16, oR w17, oR b19, oR rp_340, oR r_340, .unset] [(.int (1 : Int32))]) (fun _ k => st351.trans k) ?_
    have hc360 : ¬ ((1 : Int32) = (0 : Int32)) := by decide
    refine ow (oT T351 m 429 #[oi p0, oi p1, oi p2, oi p3, oi 3, oi u5, oi u6, oi u7, oi u8, oR a1_1, oR a1_2, oR b4, oi u12, oi u13, oi u14, oi n15, oR w16, oR w17, oR b19, oR rp_340, oR r_340, .unset] []) (fun _ k => XS.ifYes X351.here hx rfl (pc0 := 424) (pc' := 429) rfl (hb hby at_424) rfl ((if0 _ _).trans (feq hc360).2) (by decide) (by decide) k) ?_
    refine ow (oT T351 m 431 #[oi p0, oi p1, oi p2, oi p3, oi 3, oi u5, oi u6, oi u7, oi u8, oR a1_1, oR a1_2, oR b4, oi u12, oi u13, oi u14, oi n15, oR w16, oR w17, oR b19, oR rp_340, oR r_340, .unset] [(.ref rp_340)]) (fun _ k => XS.aload X351.here hx rfl (hb hby at_429) rfl rfl k) ?_
    obtain ⟨cq361, kq361, q361a, q361b, q361c⟩ := isOf hZ eq351 g340_0
    obtain ⟨_, _, ⟨T361, LC361, kC361, nC361⟩, -, X361, ⟨Lc361, hQ361, lq361, yq361, zq361⟩, st361⟩ := X351.virtualBack hx (y := oM11) (z := oM11) hown (mvT hZ (own_hw hw 154)) (mvT hZ (own_hw hw 155)) (notFace_of_selects (args := #[]) (mvT hZ (own_hw hw 157))) (mvT hZ (own_hw hw 157)) (mvT hZ (own_hw hw 156)) (by decide) (backOf (W := 0) (rm27 l Z a0 hw [] rp_340 b19 h340 n0 (by omega) g340_2) hZ (own_hw hw 158) (own_hw hw 70) (by decide) (by decide)) q361a q361c (g := (mkF m 431 #[oi p0, oi p1, oi p2, oi p3, oi 3, oi u5, oi u6, oi u7, oi u8, oR a1_1, oR a1_2, oR b4, oi u12, oi u13, oi u14, oi n15, oR w16, oR w17, oR b19, oR rp_340, oR r_340, .unset] [(.ref rp_340)])) rfl hml.symm (Steps.refl _) (argsL := []) (rest := []) (lenOf pd_23 rfl) rfl (Nat.le_of_eq rfl) (hb hby at_431) (fun _ _ => ⟨rfl, eq351, (by decide : 28 + 0 ≤ _), (by decide : 218 + 0 ≤ _)⟩)
    dsimp only [Pt.U, Pt.locs, Pt.cells, Pt.slots] at X361 lq361 yq361 zq361 st361 hQ361
    subst lq361 yq361 zq361
    obtain ⟨rfl, Nq361, eq361⟩ := hQ361
    have N361 := Fr.app N351 Nq361
    refine ow (oT T361 m 434 #[oi p0, oi p1, oi p2, oi p3, oi 3, oi u5, oi u6, oi u7, oi u8, oR a1_1, oR a1_2, oR b4, oi u12, oi u13, oi u14, oi n15, oR w16, oR w17, oR b19, oR rp_340, oR r_340, .unset] [(.ref b19)]) (fun _ k => st361.trans k) ?_
    refine ow (oT T361 m 436 #[oi p0, oi p1, oi p2, oi p3, oi 3, oi u5, oi u6, oi u7, oi u8, oR a1_1, oR a1_2, oR b4, oi u12, oi u13, oi u14, oi n15, oR w16, oR w17, oR b19, oR rp_340, oR r_340, oR b19] []) (fun _ k => XS.astore X361.here hx rfl (hb hby at_434) rfl rfl (l' := #[oi p0, oi p1, oi p2, oi p3, oi 3, oi u5, oi u6, oi u7, oi u8, oR a1_1, oR a1_2, oR b4, oi u12, oi u13, oi u14, oi n15, oR w16, oR w17, oR b19, oR rp_340, oR r_340, oR b19]) rfl k) ?_
    refine ow (oT T361 m 438 #[oi p0, oi p1, oi p2, oi p3, oi 3, oi u5, oi u6, oi u7, oi u8, oR a1_1, oR a1_2, oR b4, oi u12, oi u13, oi u14, oi n15, oR w16, oR w17, oR b19, oR rp_340, oR r_340, oR b19] [(.ref b19)]) (fun _ k => XS.aload X361.here hx rfl (hb hby at_436) rfl rfl k) ?_
    have c363 : Fld Z h340 b19 oS1 "size" "I" (.int (3 : Int32)) := (g338_3.keep K340 nin0)
    have c364 : Exa Z h340 b19 oS1 := (g338_0.keep K340)
    obtain ⟨cq362, kq362, q362a, q362b, q362c⟩ := isOf hZ eq361 c364
    obtain ⟨_, _, ⟨T362, LC362, kC362, nC362⟩, -, X362, ⟨Lc362, hQ362, lq362, yq362, zq362⟩, st362⟩ := X361.interfaceBack hx (xi := oM17) (y := oM18) hown (mvT hZ (own_hw hw 129)) (mvT hZ (own_hw hw 130)) (mvT hZ (own_hw hw 131)) (mvT hZ (own_hw hw 159)) (mvT hZ (own_hw hw 160)) (mvT hZ (own_hw hw 161)) (mvT hZ (own_hw hw 162)) (mvT hZ (own_hw hw 163)) (by decide) (backOf (W := 0) (rm28 l Z a0 hw [] b19 (3 : Int32) h340 n0 (by omega) c363) hZ (own_hw hw 164) (own_hw hw 46) (by decide) (by decide)) q362a q362b q362c (g := (mkF m 438 #[oi p0, oi p1, oi p2, oi p3, oi 3, oi u5, oi u6, oi u7, oi u8, oR a1_1, oR a1_2, oR b4, oi u12, oi u13, oi u14, oi n15, oR w16, oR w17, oR b19, oR rp_340, oR r_340, oR b19] [(.ref b19)])) rfl hml.symm (Steps.refl _) (argsL := []) (rest := []) (lenOf pd_22 rfl) rfl (Nat.le_of_eq rfl) (hb hby at_438) (fun _ _ => ⟨rfl, eq361, (by decide : 28 + 0 ≤ _), (by decide : 218 + 0 ≤ _)⟩)
    dsimp only [Pt.U, Pt.locs, Pt.cells, Pt.slots] at X362 lq362 yq362 zq362 st362 hQ362
    subst lq362 yq362 zq362
    obtain ⟨rfl, Nq362, eq362⟩ := hQ362
    have N362 := Fr.app N361 Nq362
    refine ow (oT T362 m 443 #[oi p0, oi p1, oi p2, oi p3, oi 3, oi u5, oi u6, oi u7, oi u8, oR a1_1, oR a1_2, oR b4, oi u12, oi u13, oi u14, oi n15, oR w16, oR w17, oR b19, oR rp_340, oR r_340, oR b19] [(.int (3 : Int32))]) (fun _ k => st362.trans k) ?_
    refine ow (oT T362 m 445 #[oi p0, oi p1, oi p2, oi p3, oi 3, oi u5, oi u6, oi u7, oi u8, oR a1_1, oR a1_2, oR b4, oi u12, oi u13, oi u14, oi n15, oR w16, oR w17, oR b19, oR rp_340, oR r_340, oR b19] [(.int (3 : Int32)), (.int (3 : Int32))]) (fun _ k => XS.iload X362.here hx rfl (hb hby at_443) rfl k) ?_
    have hc365 : (3 : Int32) = (3 : Int32) := by decide
    refine ow (oT T362 m 450 #[oi p0, oi p1, oi p2, oi p3, oi 3, oi u5, oi u6, oi u7, oi u8, oR a1_1, oR a1_2, oR b4, oi u12, oi u13, oi u14, oi n15, oR w16, oR w17, oR b19, oR rp_340, oR r_340, oR b19] []) (fun _ k => XS.icmpYes X362.here hx rfl (pc0 := 445) (pc' := 450) rfl (hb hby at_445) rfl (teq hc365).1 (by decide) (by decide) k) ?_
    have KA366 : Keep h23 h340 [b19] := (((((Keep.refl h23 [b19]).trans K330 (allS (P := fun x => x ∈ [b19] ∨ h23.size ≤ x) (Or.inl (List.mem_of_getElem? (i := 0) rfl)) all0)).trans K335 (allS (P := fun x => x ∈ [b19] ∨ h23.size ≤ x) (Or.inl (List.mem_of_getElem? (i := 0) rfl)) (allS (P := fun x => x ∈ [b19] ∨ h23.size ≤ x) (Or.inr (by omega)) all0))).trans K338 (allS (P := fun x => x ∈ [b19] ∨ h23.size ≤ x) (Or.inl (List.mem_of_getElem? (i := 0) rfl)) (allS (P := fun x => x ∈ [b19] ∨ h23.size ≤ x) (Or.inr (by omega)) all0))).trans K340 all0)
    have AS366 := CHr.keep (EL := own_EL) KA366 (allS (P := fun x => Safe Z own_EL _ h23 x) (Safe.exa hZ.alike g23_0 (by decide) (by decide)) all0) AA232.1
    have AA367 := AA232.trans AS366
    have c368 : Exa Z h340 a1_1 oS0 := ((((c333.keep K330).keep K335).keep K338).keep K340)
    have c369 : Fld Z h340 a1_1 oS0 "value" "[B" (.ref r_1) := ((((((fj18_5.ext E19).keep K23 (ninS (own_ne (by omega)) nin0)).keep K330 (ninS (own_ne (by omega)) nin0)).keep K335 (ninS (own_ne (by omega)) (ninS (own_ne (by omega)) nin0))).keep K338 (ninS (own_ne (by omega)) (ninS (own_ne (by omega)) nin0))).keep K340 nin0)
    have c370 : Fld Z h340 a1_1 oS0 "coder" "B" (.int (0 : Int32)) := ((((((fj18_6.ext E19).keep K23 (ninS (own_ne (by omega)) nin0)).keep K330 (ninS (own_ne (by omega)) nin0)).keep K335 (ninS (own_ne (by omega)) (ninS (own_ne (by omega)) nin0))).keep K338 (ninS (own_ne (by omega)) (ninS (own_ne (by omega)) nin0))).keep K340 nin0)
    have c371 : Arv Z h340 r_1 kr_1 .byte (1 : Int32) [(.int (own_by u5))] (.int (0 : Int32)) := ((((((fj18_7.ext E19).keep K23 (ninS (own_ne (by omega)) nin0)).keep K330 (ninS (own_ne (by omega)) nin0)).keep K335 (ninS (own_ne (by omega)) (ninS (own_ne (by omega)) nin0))).keep K338 (ninS (own_ne (by omega)) (ninS (own_ne (by omega)) nin0))).keep K340 nin0)
    have c372 : Exa Z h340 a1_2 oS0 := (((c336.keep K335).keep K338).keep K340)
    have c373 : Fld Z h340 a1_2 oS0 "value" "[B" (.ref r_2) := ((((((fj18_9.ext E19).keep K23 (ninS (own_ne (by omega)) nin0)).keep K330 (ninS (own_ne (by omega)) nin0)).keep K335 (ninS (own_ne (by omega)) (ninS (own_ne (by omega)) nin0))).keep K338 (ninS (own_ne (by omega)) (ninS (own_ne (by omega)) nin0))).keep K340 nin0)
    have c374 : Fld Z h340 a1_2 oS0 "coder" "B" (.int (0 : Int32)) := ((((((fj18_10.ext E19).keep K23 (ninS (own_ne (by omega)) nin0)).keep K330 (ninS (own_ne (by omega)) nin0)).keep K335 (ninS (own_ne (by omega)) (ninS (own_ne (by omega)) nin0))).keep K338 (ninS (own_ne (by omega)) (ninS (own_ne (by omega)) nin0))).keep K340 nin0)
    have c375 : Arv Z h340 r_2 kr_2 .byte (1 : Int32) [(.int (own_by u6))] (.int (0 : Int32)) := ((((((fj18_11.ext E19).keep K23 (ninS (own_ne (by omega)) nin0)).keep K330 (ninS (own_ne (by omega)) nin0)).keep K335 (ninS (own_ne (by omega)) (ninS (own_ne (by omega)) nin0))).keep K338 (ninS (own_ne (by omega)) (ninS (own_ne (by omega)) nin0))).keep K340 nin0)
    have c376 : Exa Z h340 b4 oS0 := ((c339.keep K338).keep K340)
    have c377 : Fld Z h340 b4 oS0 "value" "[B" (.ref r_11) := ((((((fj18_13.ext E19).keep K23 (ninS (own_ne (by omega)) nin0)).keep K330 (ninS (own_ne (by omega)) nin0)).keep K335 (ninS (own_ne (by omega)) (ninS (own_ne (by omega)) nin0))).keep K338 (ninS (own_ne (by omega)) (ninS (own_ne (by omega)) nin0))).keep K340 nin0)
    have c378 : Fld Z h340 b4 oS0 "coder" "B" (.int (0 : Int32)) := ((((((fj18_14.ext E19).keep K23 (ninS (own_ne (by omega)) nin0)).keep K330 (ninS (own_ne (by omega)) nin0)).keep K335 (ninS (own_ne (by omega)) (ninS (own_ne (by omega)) nin0))).keep K338 (ninS (own_ne (by omega)) (ninS (own_ne (by omega)) nin0))).keep K340 nin0)
    have c379 : Arv Z h340 r_11 kr_11 .byte (2 : Int32) [(.int (own_by u7)), (.int (own_by u8))] (.int (0 : Int32)) := ((((((fj18_15.ext E19).keep K23 (ninS (own_ne (by omega)) nin0)).keep K330 (ninS (own_ne (by omega)) nin0)).keep K335 (ninS (own_ne (by omega)) (ninS (own_ne (by omega)) nin0))).keep K338 (ninS (own_ne (by omega)) (ninS (own_ne (by omega)) nin0))).keep K340 nin0)
    have c380 : Fld Z h340 b19 oS1 "elementData" oS3 (.ref ea_330) := (g338_2.keep K340 nin0)
    have c381 : Arv Z h340 ea_330 ke_330 (.object oS2) (10 : Int32) [(.ref a1_1), (.ref a1_2), (.ref b4), .null, .null, .null, .null, .null, .null, .null] .null := (g338_4.keep K340 nin0)
    exact J450_293 _ _ _ ea_330 ke_330 rp_340 r_340 _ _ (own_widen X362 (by decide) (by decide)) eq362 N362 hSj18 (by omega) hZ hown AA367 (by omega) c368 c369 c370 c371 c372 c373 c374 c375 c376 c377 c378 c379 c352 c364 c380 c363 c381
  rcases ht_n15 with rfl | rfl | rfl | rfl
  ·
   refine ow (oT T11 m 119 #[oi p0, oi p1, oi p2, oi p3, oi n4, oi u5, oi u6, oi u7, oi u8, oR a1_1, oR a1_2, oR b4, oi u12, oi u13, oi u14, oi 0, .unset, .unset, .unset, .unset, .unset, .unset] [(.int (0 : Int32))]) (fun _ k => XS.iload X11.here hx rfl (hb hby at_117) rfl k) ?_
   have hc382 : (0 : Int32) = (0 : Int32) := by decide
   refine ow (oT T11 m 122 #[oi p0, oi p1, oi p2, oi p3, oi n4, oi u5, oi u6, oi u7, oi u8, oR a1_1, oR a1_2, oR b4, oi u12, oi u13, oi u14, oi 0, .unset, .unset, .unset, .unset, .unset, .unset] []) (fun _ k => XS.ifNo X11.here hx rfl (hb hby at_119) rfl ((if0 _ _).trans (teq hc382).2) k) ?_
   obtain ⟨T383, h383, X383, e383, E383, A383, D383, -, st383⟩ := newO X11 hx hZ hown (own_hw hw 26) (own_hw hw 10) (own_hw hw 2) e11 (g := (mkF m 122 #[oi p0, oi p1, oi p2, oi p3, oi n4, oi u5, oi u6, oi u7, oi u8, oR a1_1, oR a1_2, oR b4, oi u12, oi u13, oi u14, oi 0, .unset, .unset, .unset, .unset, .unset, .unset] [])) rfl (hb hby at_122) (by decide) (by decide)
   obtain ⟨b383, g383⟩ : ∃ z, z = h11.size := ⟨_, rfl⟩
   rw [← g383] at A383 D383 st383
   have sz383 : h11.size ≤ h383.size := E383.1
   have lt383 : @LT.lt Nat _ b383 h383.size := A383.lt
   have f384 : Fld Z h383 b383 oS0 "value" "[B" .null := D383 (Or.inr (own_hw hw 23)) (ty := (.array .byte)) (by decide)
   have f385 : Fld Z h383 b383 oS0 "coder" "B" (.int (0 : Int32)) := D383 (Or.inr (own_hw hw 25)) (ty := .byte) (by decide)
   refine ow (oT T383 m 125 #[oi p0, oi p1, oi p2, oi p3, oi n4, oi u5, oi u6, oi u7, oi u8, oR a1_1, oR a1_2, oR b4, oi u12, oi u13, oi u14, oi 0, .unset, .unset, .unset, .unset, .unset, .unset] [(.ref b383)]) (st383) ?_
   refine ow (oT T383 m 126 #[oi p0, oi p1, oi p2, oi p3, oi n4, oi u5, oi u6, oi u7, oi u8, oR a1_1, oR a1_2, oR b4, oi u12, oi u13, oi u14, oi 0, .unset, .unset, .unset, .unset, .unset, .unset] [(.ref b383), (.ref b383)]) (fun _ k => XS.dup X383.here hx rfl (hb hby at_125) rfl rfl k) ?_
   refine ow (oT T383 m 127 #[oi p0, oi p1, oi p2, oi p3, oi n4, oi u5, oi u6, oi u7, oi u8, oR a1_1, oR a1_2, oR b4, oi u12, oi u13, oi u14, oi 0, .unset, .unset, .unset, .unset, .unset, .unset] [(.int (0 : Int32)), (.ref b383), (.ref b383)]) (fun _ k => XS.iconst X383.here hx rfl (hb hby at_126) k) ?_
   obtain ⟨T386, h386, k386, X386, e386, E386, A386, st386⟩ := newP X383 hx hZ (own_hw hw 27) e383 (g := (mkF m 127 #[oi p0, oi p1, oi p2, oi p3, oi n4, oi u5, oi u6, oi u7, oi u8, oR a1_1, oR a1_2, oR b4, oi u12, oi u13, oi u14, oi 0, .unset, .unset, .unset, .unset, .unset, .unset] [(.int (0 : Int32)), (.ref b383), (.ref b383)])) rfl (hb hby at_127) rfl (by decide) (cap := 0) (by decide) (by decide) (by decide) (by decide)
   obtain ⟨b386, g386⟩ : ∃ z, z = h383.size := ⟨_, rfl⟩
   rw [← g386] at A386 st386
   have sz386 : h383.size ≤ h386.size := E386.1
   have lt386 : @LT.lt Nat _ b386 h386.size := A386.lt
   have v386 : Arv Z h386 b386 k386 .char (0 : Int32) [] (.int (0 : Int32)) := (Arv.new A386 (by decide)).pad (pad_rep [] (.int (0 : Int32)) 0)
   refine ow (oT T386 m 129 #[oi p0, oi p1, oi p2, oi p3, oi n4, oi u5, oi u6, oi u7, oi u8, oR a1_1, oR a1_2, oR b4, oi u12, oi u13, oi u14, oi 0, .unset, .unset, .unset, .unset, .unset, .unset] [(.ref b386), (.ref b383), (.ref b383)]) (st386) ?_
   have c388 : Exa Z h386 b383 oS0 := (A383.ext E386)
   have c389 : Fld Z h386 b383 oS0 "value" "[B" .null := (f384.ext E386)
   have c390 : Fld Z h386 b383 oS0 "coder" "B" (.int (0 : Int32)) := (f385.ext E386)
   have KA391 : Keep h11 h386 [] := (((Keep.refl h11 []).ext E383).ext E386)
   have AS391 := CHr.keep (EL := own_EL) KA391 all0 AA17.1
   have AA392 := AA17.trans AS391
   obtain ⟨_, _, ⟨T387, LC387, kC387, nC387⟩, -, X387, hS387, hg387, ⟨Lc387, hQ387, lq387, yq387, zq387, CR387⟩, st387⟩ := X386.specialBackS hx (y := oM0) rfl hown (mvT hZ (own_hw hw 28)) (mvT hZ (own_hw hw 29)) (mvT hZ (own_hw hw 30)) (by decide) (backOfSH (W := 1) (rsc_0 l Z a0 hw [] b383 b386 k386 h386 n0 (by omega) c388 c389 c390 v386 (by omega)) hZ (own_hw hw 30) (own_hw hw 2) (by decide) (by decide) hEL AA392.1) (g := (mkF m 129 #[oi p0, oi p1, oi p2, oi p3, oi n4, oi u5, oi u6, oi u7, oi u8, oR a1_1, oR a1_2, oR b4, oi u12, oi u13, oi u14, oi 0, .unset, .unset, .unset, .unset, .unset, .unset] [(.ref b386), (.ref b383), (.ref b383)])) rfl hml.symm (Steps.refl _) (a := b383) (argsL := [(.ref b386)]) (rest := [(.ref b383)]) (lenOf pd_20 rfl) rfl (Nat.le_of_eq rfl) (hb hby at_129) (fun _ _ => ⟨rfl, e386, (by decide : 9 + 2 ≤ _), (by decide : 22 + 4 ≤ _)⟩)
   dsimp only [Pt.U, Pt.locs, Pt.cells, Pt.slots] at X387 lq387 yq387 zq387 st387 hQ387
   subst lq387 yq387 zq387
   dsimp only [Pt.U, Pt.locs, Pt.cells, Pt.slots] at hS387 hg387 CR387
   obtain ⟨X387, hS387, hZ, hown⟩ := rebS hS0 (by rw [e386]; omega) X387 hS387 hg387 hZ hown
   obtain ⟨h387, e387⟩ : ∃ z, T387.heap = z := ⟨_, rfl⟩
   rw [e387] at hQ387 hS387
   obtain ⟨r_387, kr_387, rfl, Nq387, K387, g387_0, g387_1, g387_2, g387_3⟩ := hQ387
   have sz387 : h386.size ≤ h387.size := K387.1
   rw [e387] at CR387
   have AA393 := AA392.trans CR387
   have N387 := Fr.app N11 Nq387
   have lt387_1 : @LT.lt Nat _ b383 h387.size := g387_0.lt
   have lt387_2 : @LT.lt Nat _ r_387 h387.size := g387_3.lt
   have c395 : Exa Z h387 a1_1 oS0 := (((((((((g1_0.keep K2).ext E4).ext E7).wr W8).wr W9).keep K11).ext E383).ext E386).keep K387)
   have ap394 : @Ne Nat a1_1 r_387 := own_ne_oa (own_hw hw 10) c395 g387_3
   have c397 : Exa Z h387 a1_2 oS0 := ((((((((g2_0.ext E4).ext E7).wr W8).wr W9).keep K11).ext E383).ext E386).keep K387)
   have ap396 : @Ne Nat a1_2 r_387 := own_ne_oa (own_hw hw 10) c397 g387_3
   have c399 : Exa Z h387 b4 oS0 := (((g11_0.ext E383).ext E386).keep K387)
   have ap398 : @Ne Nat b4 r_387 := own_ne_oa (own_hw hw 10) c399 g387_3
   have ap400 : @Ne Nat b383 r_387 := own_ne_oa (own_hw hw 10) g387_0 g387_3
   refine ow (oT T387 m 132 #[oi p0, oi p1, oi p2, oi p3, oi n4, oi u5, oi u6, oi u7, oi u8, oR a1_1, oR a1_2, oR b4, oi u12, oi u13, oi u14, oi 0, .unset, .unset, .unset, .unset, .unset, .unset] [(.ref b383)]) (fun _ k => st387.trans k) ?_
   refine ow (oT T387 m 134 #[oi p0, oi p1, oi p2, oi p3, oi n4, oi u5, oi u6, oi u7, oi u8, oR a1_1, oR a1_2, oR b4, oi u12, oi u13, oi u14, oi 0, oR b383, .unset, .unset, .unset, .unset, .unset] []) (fun _ k => XS.astore X387.here hx rfl (hb hby at_132) rfl rfl (l' := #[oi p0, oi p1, oi p2, oi p3, oi n4, oi u5, oi u6, oi u7, oi u8, oR a1_1, oR a1_2, oR b4, oi u12, oi u13, oi u14, oi 0, oR b383, .unset, .unset, .unset, .unset, .unset]) rfl k) ?_
   refine ow (oT T387 m 211 #[oi p0, oi p1, oi p2, oi p3, oi n4, oi u5, oi u6, oi u7, oi u8, oR a1_1, oR a1_2, oR b4, oi u12, oi u13, oi u14, oi 0, oR b383, .unset, .unset, .unset, .unset, .unset] []) (fun _ k => XS.goto X387.here hx rfl (pc0 := 134) (pc' := 211) rfl (hb hby at_134) (by decide) (by decide) k) ?_
   refine ow (oT T387 m 213 #[oi p0, oi p1, oi p2, oi p3, oi n4, oi u5, oi u6, oi u7, oi u8, oR a1_1, oR a1_2, oR b4, oi u12, oi u13, oi u14, oi 0, oR b383, .unset, .unset, .unset, .unset, .unset] [(.int (0 : Int32))]) (fun _ k => XS.iload X387.here hx rfl (hb hby at_211) rfl k) ?_
   have hc401 : (0 : Int32) = (0 : Int32) := by decide
   refine ow (oT T387 m 216 #[oi p0, oi p1, oi p2, oi p3, oi n4, oi u5, oi u6, oi u7, oi u8, oR a1_1, oR a1_2, oR b4, oi u12, oi u13, oi u14, oi 0, oR b383, .unset, .unset, .unset, .unset, .unset] []) (fun _ k => XS.ifNo X387.here hx rfl (hb hby at_213) rfl ((if0 _ _).trans (teq hc401).2) k) ?_
   obtain ⟨T402, h402, X402, e402, E402, A402, D402, -, st402⟩ := newO X387 hx hZ hown (own_hw hw 26) (own_hw hw 10) (own_hw hw 2) e387 (g := (mkF m 216 #[oi p0, oi p1, oi p2, oi p3, oi n4, oi u5, oi u6, oi u7, oi u8, oR a1_1, oR a1_2, oR b4, oi u12, oi u13, oi u14, oi 0, oR b383, .unset, .unset, .unset, .unset, .unset] [])) rfl (hb hby at_216) (by decide) (by decide)
   obtain ⟨b402, g402⟩ : ∃ z, z = h387.size := ⟨_, rfl⟩
   rw [← g402] at A402 D402 st402
   have sz402 : h387.size ≤ h402.size := E402.1
   have lt402 : @LT.lt Nat _ b402 h402.size := A402.lt
   have f403 : Fld Z h402 b402 oS0 "value" "[B" .null := D402 (Or.inr (own_hw hw 23)) (ty := (.array .byte)) (by decide)
   have f404 : Fld Z h402 b402 oS0 "coder" "B" (.int (0 : Int32)) := D402 (Or.inr (own_hw hw 25)) (ty := .byte) (by decide)
   refine ow (oT T402 m 219 #[oi p0, oi p1, oi p2, oi p3, oi n4, oi u5, oi u6, oi u7, oi u8, oR a1_1, oR a1_2, oR b4, oi u12, oi u13, oi u14, oi 0, oR b383, .unset, .unset, .unset, .unset, .unset] [(.ref b402)]) (st402) ?_
   refine ow (oT T402 m 220 #[oi p0, oi p1, oi p2, oi p3, oi n4, oi u5, oi u6, oi u7, oi u8, oR a1_1, oR a1_2, oR b4, oi u12, oi u13, oi u14, oi 0, oR b383, .unset, .unset, .unset, .unset, .unset] [(.ref b402), (.ref b402)]) (fun _ k => XS.dup X402.here hx rfl (hb hby at_219) rfl rfl k) ?_
   refine ow (oT T402 m 221 #[oi p0, oi p1, oi p2, oi p3, oi n4, oi u5, oi u6, oi u7, oi u8, oR a1_1, oR a1_2, oR b4, oi u12, oi u13, oi u14, oi 0, oR b383, .unset, .unset, .unset, .unset, .unset] [(.int (0 : Int32)), (.ref b402), (.ref b402)]) (fun _ k => XS.iconst X402.here hx rfl (hb hby at_220) k) ?_
   obtain ⟨T405, h405, k405, X405, e405, E405, A405, st405⟩ := newP X402 hx hZ (own_hw hw 27) e402 (g := (mkF m 221 #[oi p0, oi p1, oi p2, oi p3, oi n4, oi u5, oi u6, oi u7, oi u8, oR a1_1, oR a1_2, oR b4, oi u12, oi u13, oi u14, oi 0, oR b383, .unset, .unset, .unset, .unset, .unset] [(.int (0 : Int32)), (.ref b402), (.ref b402)])) rfl (hb hby at_221) rfl (by decide) (cap := 0) (by decide) (by decide) (by decide) (by decide)
   obtain ⟨b405, g405⟩ : ∃ z, z = h402.size := ⟨_, rfl⟩
   rw [← g405] at A405 st405
   have sz405 : h402.size ≤ h405.size := E405.1
   have lt405 : @LT.lt Nat _ b405 h405.size := A405.lt
   have v405 : Arv Z h405 b405 k405 .char (0 : Int32) [] (.int (0 : Int32)) := (Arv.new A405 (by decide)).pad (pad_rep [] (.int (0 : Int32)) 0)
   refine ow (oT T405 m 223 #[oi p0, oi p1, oi p2, oi p3, oi n4, oi u5, oi u6, oi u7, oi u8, oR a1_1, oR a1_2, oR b4, oi u12, oi u13, oi u14, oi 0, oR b383, .unset, .unset, .unset, .unset, .unset] [(.ref b405), (.ref b402), (.ref b402)]) (st405) ?_
   have c407 : Exa Z h405 b402 oS0 := (A402.ext E405)
   have c408 : Fld Z h405 b402 oS0 "value" "[B" .null := (f403.ext E405)
   have c409 : Fld Z h405 b402 oS0 "coder" "B" (.int (0 : Int32)) := (f404.ext E405)
   have KA410 : Keep h387 h405 [] := (((Keep.refl h387 []).ext E402).ext E405)
   have AS410 := CHr.keep (EL := own_EL) KA410 all0 AA393.1
   have AA411 := AA393.trans AS410
   obtain ⟨_, _, ⟨T406, LC406, kC406, nC406⟩, -, X406, hS406, hg406, ⟨Lc406, hQ406, lq406, yq406, zq406, CR406⟩, st406⟩ := X405.specialBackS hx (y := oM0) rfl hown (mvT hZ (own_hw hw 28)) (mvT hZ (own_hw hw 29)) (mvT hZ (own_hw hw 30)) (by decide) (backOfSH (W := 1) (rsc_0 l Z a0 hw [] b402 b405 k405 h405 n0 (by omega) c407 c408 c409 v405 (by omega)) hZ (own_hw hw 30) (own_hw hw 2) (by decide) (by decide) hEL AA411.1) (g := (mkF m 223 #[oi p0, oi p1, oi p2, oi p3, oi n4, oi u5, oi u6, oi u7, oi u8, oR a1_1, oR a1_2, oR b4, oi u12, oi u13, oi u14, oi 0, oR b383, .unset, .unset, .unset, .unset, .unset] [(.ref b405), (.ref b402), (.ref b402)])) rfl hml.symm (Steps.refl _) (a := b402) (argsL := [(.ref b405)]) (rest := [(.ref b402)]) (lenOf pd_20 rfl) rfl (Nat.le_of_eq rfl) (hb hby at_223) (fun _ _ => ⟨rfl, e405, (by decide : 13 + 2 ≤ _), (by decide : 30 + 4 ≤ _)⟩)
   dsimp only [Pt.U, Pt.locs, Pt.cells, Pt.slots] at X406 lq406 yq406 zq406 st406 hQ406
   subst lq406 yq406 zq406
   dsimp only [Pt.U, Pt.locs, Pt.cells, Pt.slots] at hS406 hg406 CR406
   obtain ⟨X406, hS406, hZ, hown⟩ := rebS hS387 (by rw [e405]; omega) X406 hS406 hg406 hZ hown
   obtain ⟨h406, e406⟩ : ∃ z, T406.heap = z := ⟨_, rfl⟩
   rw [e406] at hQ406 hS406
   obtain ⟨r_406, kr_406, rfl, Nq406, K406, g406_0, g406_1, g406_2, g406_3⟩ := hQ406
   have sz406 : h405.size ≤ h406.size := K406.1
   rw [e406] at CR406
   have AA412 := AA411.trans CR406
   have N406 := Fr.app N387 Nq406
   have lt406_1 : @LT.lt Nat _ b402 h406.size := g406_0.lt
   have lt406_2 : @LT.lt Nat _ r_406 h406.size := g406_3.lt
   have c414 : Exa Z h406 a1_1 oS0 := (((c395.ext E402).ext E405).keep K406)
   have ap413 : @Ne Nat a1_1 r_406 := own_ne_oa (own_hw hw 10) c414 g406_3
   have c416 : Exa Z h406 a1_2 oS0 := (((c397.ext E402).ext E405).keep K406)
   have ap415 : @Ne Nat a1_2 r_406 := own_ne_oa (own_hw hw 10) c416 g406_3
   have c418 : Exa Z h406 b4 oS0 := (((c399.ext E402).ext E405).keep K406)
   have ap417 : @Ne Nat b4 r_406 := own_ne_oa (own_hw hw 10) c418 g406_3
   have c420 : Exa Z h406 b383 oS0 := (((g387_0.ext E402).ext E405).keep K406)
   have ap419 : @Ne Nat b383 r_406 := own_ne_oa (own_hw hw 10) c420 g406_3
   have ap421 : @Ne Nat b402 r_406 := own_ne_oa (own_hw hw 10) g406_0 g406_3
   refine ow (oT T406 m 226 #[oi p0, oi p1, oi p2, oi p3, oi n4, oi u5, oi u6, oi u7, oi u8, oR a1_1, oR a1_2, oR b4, oi u12, oi u13, oi u14, oi 0, oR b383, .unset, .unset, .unset, .unset, .unset] [(.ref b402)]) (fun _ k => st406.trans k) ?_
   refine ow (oT T406 m 228 #[oi p0, oi p1, oi p2, oi p3, oi n4, oi u5, oi u6, oi u7, oi u8, oR a1_1, oR a1_2, oR b4, oi u12, oi u13, oi u14, oi 0, oR b383, oR b402, .unset, .unset, .unset, .unset] []) (fun _ k => XS.astore X406.here hx rfl (hb hby at_226) rfl rfl (l' := #[oi p0, oi p1, oi p2, oi p3, oi n4, oi u5, oi u6, oi u7, oi u8, oR a1_1, oR a1_2, oR b4, oi u12, oi u13, oi u14, oi 0, oR b383, oR b402, .unset, .unset, .unset, .unset]) rfl k) ?_
   refine ow (oT T406 m 315 #[oi p0, oi p1, oi p2, oi p3, oi n4, oi u5, oi u6, oi u7, oi u8, oR a1_1, oR a1_2, oR b4, oi u12, oi u13, oi u14, oi 0, oR b383, oR b402, .unset, .unset, .unset, .unset] []) (fun _ k => XS.goto X406.here hx rfl (pc0 := 228) (pc' := 315) rfl (hb hby at_228) (by decide) (by decide) k) ?_
   have c422 : Sta Z h406 oS0 oS4 "Z" (.int zc) := (own_sta_keep (((own_sta_keep (((own_sta_keep c15 K11 (allS (P := fun x => ∀ c : Cell, h9[x]? = some c → c.vm.isStatics = false) (own_pl_exa c12) all0)).ext E383).ext E386) K387 (allS (P := fun x => ∀ c : Cell, h386[x]? = some c → c.vm.isStatics = false) (own_pl_exa c388) all0)).ext E402).ext E405) K406 (allS (P := fun x => ∀ c : Cell, h405[x]? = some c → c.vm.isStatics = false) (own_pl_exa c407) all0))
   have c423 : Sta Z h406 oS1 oS10 oS3 (.ref de) := (own_sta_keep (((own_sta_keep (((own_sta_keep (((((own_sta_keep (own_sta_keep pr2 K1 all0) K2 all0).ext E4).ext E7).wr W8).wr W9) K11 (allS (P := fun x => ∀ c : Cell, h9[x]? = some c → c.vm.isStatics = false) (own_pl_exa c12) all0)).ext E383).ext E386) K387 (allS (P := fun x => ∀ c : Cell, h386[x]? = some c → c.vm.isStatics = false) (own_pl_exa c388) all0)).ext E402).ext E405) K406 (allS (P := fun x => ∀ c : Cell, h405[x]? = some c → c.vm.isStatics = false) (own_pl_exa c407) all0))
   have c424 : Arv Z h406 de kde (.object oS2) (0 : Int32) [] .null := (((((((((((((pr3.keep K1 nin0).keep K2 nin0).ext E4).ext E7).other W8 (own_ne (by omega))).other W9 (own_ne (by omega))).keep K11 (ninS (own_ne (by omega)) nin0)).ext E383).ext E386).keep K387 (ninS (own_ne (by omega)) nin0)).ext E402).ext E405).keep K406 (ninS (own_ne (by omega)) nin0))
   have c425 : Sta Z h406 oS7 "EMPTY" oS5 (.ref em) := (own_sta_keep (((own_sta_keep (((own_sta_keep (((((own_sta_keep (own_sta_keep pr4 K1 all0) K2 all0).ext E4).ext E7).wr W8).wr W9) K11 (allS (P := fun x => ∀ c : Cell, h9[x]? = some c → c.vm.isStatics = false) (own_pl_exa c12) all0)).ext E383).ext E386) K387 (allS (P := fun x => ∀ c : Cell, h386[x]? = some c → c.vm.isStatics = false) (own_pl_exa c388) all0)).ext E402).ext E405) K406 (allS (P := fun x => ∀ c : Cell, h405[x]? = some c → c.vm.isStatics = false) (own_pl_exa c407) all0))
   have c426 : Fld Z h406 a1_1 oS0 "value" "[B" (.ref r_1) := ((((((((((((g1_1.keep K2 nin0).ext E4).ext E7).other W8 (Or.inl (own_ne (by omega)))).other W9 (Or.inl (own_ne (by omega)))).keep K11 (ninS (own_ne (by omega)) nin0)).ext E383).ext E386).keep K387 (ninS (own_ne (by omega)) nin0)).ext E402).ext E405).keep K406 (ninS (own_ne (by omega)) nin0))
   have c427 : Fld Z h406 a1_1 oS0 "coder" "B" (.int (0 : Int32)) := ((((((((((((g1_2.keep K2 nin0).ext E4).ext E7).other W8 (Or.inl (own_ne (by omega)))).other W9 (Or.inl (own_ne (by omega)))).keep K11 (ninS (own_ne (by omega)) nin0)).ext E383).ext E386).keep K387 (ninS (own_ne (by omega)) nin0)).ext E402).ext E405).keep K406 (ninS (own_ne (by omega)) nin0))
   have c428 : Arv Z h406 r_1 kr_1 .byte (1 : Int32) [(.int (own_by u5))] (.int (0 : Int32)) := ((((((((((((g1_3.keep K2 nin0).ext E4).ext E7).other W8 (own_ne (by omega))).other W9 (own_ne (by omega))).keep K11 (ninS (own_ne (by omega)) nin0)).ext E383).ext E386).keep K387 (ninS (own_ne (by omega)) nin0)).ext E402).ext E405).keep K406 (ninS (own_ne (by omega)) nin0))
   have c429 : Fld Z h406 a1_2 oS0 "value" "[B" (.ref r_2) := (((((((((((g2_1.ext E4).ext E7).other W8 (Or.inl (own_ne (by omega)))).other W9 (Or.inl (own_ne (by omega)))).keep K11 (ninS (own_ne (by omega)) nin0)).ext E383).ext E386).keep K387 (ninS (own_ne (by omega)) nin0)).ext E402).ext E405).keep K406 (ninS (own_ne (by omega)) nin0))
   have c430 : Fld Z h406 a1_2 oS0 "coder" "B" (.int (0 : Int32)) := (((((((((((g2_2.ext E4).ext E7).other W8 (Or.inl (own_ne (by omega)))).other W9 (Or.inl (own_ne (by omega)))).keep K11 (ninS (own_ne (by omega)) nin0)).ext E383).ext E386).keep K387 (ninS (own_ne (by omega)) nin0)).ext E402).ext E405).keep K406 (ninS (own_ne (by omega)) nin0))
   have c431 : Arv Z h406 r_2 kr_2 .byte (1 : Int32) [(.int (own_by u6))] (.int (0 : Int32)) := (((((((((((g2_3.ext E4).ext E7).other W8 (own_ne (by omega))).other W9 (own_ne (by omega))).keep K11 (ninS (own_ne (by omega)) nin0)).ext E383).ext E386).keep K387 (ninS (own_ne (by omega)) nin0)).ext E402).ext E405).keep K406 (ninS (own_ne (by omega)) nin0))
   have c432 : Fld Z h406 b4 oS0 "value" "[B" (.ref r_11) := ((((((g11_1.ext E383).ext E386).keep K387 (ninS (own_ne (by omega)) nin0)).ext E402).ext E405).keep K406 (ninS (own_ne (by omega)) nin0))
   have c433 : Fld Z h406 b4 oS0 "coder" "B" (.int (0 : Int32)) := ((((((g11_2.ext E383).ext E386).keep K387 (ninS (own_ne (by omega)) nin0)).ext E402).ext E405).keep K406 (ninS (own_ne (by omega)) nin0))
   have c434 : Arv Z h406 r_11 kr_11 .byte (2 : Int32) [(.int (own_by u7)), (.int (own_by u8))] (.int (0 : Int32)) := ((((((g11_3.ext E383).ext E386).keep K387 (ninS (own_ne (by omega)) nin0)).ext E402).ext E405).keep K406 (ninS (own_ne (by omega)) nin0))
   have c435 : Fld Z h406 b383 oS0 "value" "[B" (.ref r_387) := (((g387_1.ext E402).ext E405).keep K406 (ninS (own_ne (by omega)) nin0))
   have c436 : Fld Z h406 b383 oS0 "coder" "B" (.int (0 : Int32)) := (((g387_2.ext E402).ext E405).keep K406 (ninS (own_ne (by omega)) nin0))
   have c437 : Arv Z h406 r_387 kr_387 .byte (0 : Int32) [] (.int (0 : Int32)) := (((g387_3.ext E402).ext E405).keep K406 (ninS (own_ne (by omega)) nin0))
   exact J315_18 _ _ _ b383 b402 r_387 r_406 kr_387 kr_406 _ _ (own_widen X406 (by decide) (by decide)) e406 N406 hS406 (by omega) hZ hown AA412 (show @Ne Nat b383 b402 by omega) (by omega) c422 c423 c424 c425 c414 c426 c427 c428 c416 c429 c430 c431 c418 c432 c433 c434 c420 c435 c436 c437 g406_0 g406_1 g406_2 g406_3
  ·
   refine ow (oT T11 m 119 #[oi p0, oi p1, oi p2, oi p3, oi n4, oi u5, oi u6, oi u7, oi u8, oR a1_1, oR a1_2, oR b4, oi u12, oi u13, oi u14, oi 1, .unset, .unset, .unset, .unset, .unset, .unset] [(.int (1 : Int32))]) (fun _ k => XS.iload X11.here hx rfl (hb hby at_117) rfl k) ?_
   have hc438 : ¬ ((1 : Int32) = (0 : Int32)) := by decide
   refine ow (oT T11 m 137 #[oi p0, oi p1, oi p2, oi p3, oi n4, oi u5, oi u6, oi u7, oi u8, oR a1_1, oR a1_2, oR b4, oi u12, oi u13, oi u14, oi 1, .unset, .unset, .unset, .unset, .unset, .unset] []) (fun _ k => XS.ifYes X11.here hx rfl (pc0 := 119) (pc' := 137) rfl (hb hby at_119) rfl ((if0 _ _).trans (feq hc438).2) (by decide) (by decide) k) ?_
   refine ow (oT T11 m 139 #[oi p0, oi p1, oi p2, oi p3, oi n4, oi u5, oi u6, oi u7, oi u8, oR a1_1, oR a1_2, oR b4, oi u12, oi u13, oi u14, oi 1, .unset, .unset, .unset, .unset, .unset, .unset] [(.int (1 : Int32))]) (fun _ k => XS.iload X11.here hx rfl (hb hby at_137) rfl k) ?_
   refine ow (oT T11 m 140 #[oi p0, oi p1, oi p2, oi p3, oi n4, oi u5, oi u6, oi u7, oi u8, oR a1_1, oR a1_2, oR b4, oi u12, oi u13, oi u14, oi 1, .unset, .unset, .unset, .unset, .unset, .unset] [(.int (1 : Int32)), (.int (1 : Int32))]) (fun _ k => XS.iconst X11.here hx rfl (hb hby at_139) k) ?_
   have hc439 : (1 : Int32) = (1 : Int32) := by decide
   refine ow (oT T11 m 143 #[oi p0, oi p1, oi p2, oi p3, oi n4, oi u5, oi u6, oi u7, oi u8, oR a1_1, oR a1_2, oR b4, oi u12, oi u13, oi u14, oi 1, .unset, .unset, .unset, .unset, .unset, .unset] []) (fun _ k => XS.icmpNo X11.here hx rfl (hb hby at_140) rfl (teq hc439).2 k) ?_
   refine ow (oT T11 m 145 #[oi p0, oi p1, oi p2, oi p3, oi n4, oi u5, oi u6, oi u7, oi u8, oR a1_1, oR a1_2, oR b4, oi u12, oi u13, oi u14, oi 1, .unset, .unset, .unset, .unset, .unset, .unset] [(.int u12)]) (fun _ k => XS.iload X11.here hx rfl (hb hby at_143) rfl k) ?_
   have c441 : Sta Z h11 oS0 oS4 "Z" (.int zc) := (own_sta_keep c15 K11 (allS (P := fun x => ∀ c : Cell, h9[x]? = some c → c.vm.isStatics = false) (own_pl_exa c12) all0))
   obtain ⟨_, _, ⟨T440, LC440, kC440, nC440⟩, -, X440, ⟨Lc440, hQ440, lq440, yq440, zq440⟩, st440⟩ := Jvm.LawKit.callS X11 hx (y := oM23) hown (mvT hZ (own_hw hw 0)) (mvT hZ (own_hw hw 1)) (mvT hZ (own_hw hw 2)) (mvT hZ (own_hw hw 3)) (by decide) (backOf (W := 0) (rm1 l Z a0 hw [] zc u12 h11 n0 (by omega) c441 (by assumption) hl_u12) hZ (own_hw hw 3) (own_hw hw 2) (by decide) (by decide)) (g := (mkF m 145 #[oi p0, oi p1, oi p2, oi p3, oi n4, oi u5, oi u6, oi u7, oi u8, oR a1_1, oR a1_2, oR b4, oi u12, oi u13, oi u14, oi 1, .unset, .unset, .unset, .unset, .unset, .unset] [(.int u12)])) rfl hml.symm (argsL := [(.int u12)]) (rest := []) (lenOf pd_19 rfl) rfl (Nat.le_of_eq rfl) (hb hby at_145) (fun _ _ => ⟨rfl, e11, (by decide : 7 + 2 ≤ _), (by decide : 18 + 5 ≤ _)⟩)
   dsimp only [Pt.U, Pt.locs, Pt.cells, Pt.slots] at X440 lq440 yq440 zq440 st440 hQ440
   subst lq440 yq440 zq440
   obtain ⟨h440, e440⟩ : ∃ z, T440.heap = z := ⟨_, rfl⟩
   rw [e440] at hQ440
   obtain ⟨a1_440, r_440, kr_440, rfl, Nq440, K440, g440_0, g440_1, g440_2, g440_3, g440_4, g440_5⟩ := hQ440
   have sz440 : h11.size ≤ h440.size := K440.1
   have N440 := Fr.app N11 Nq440
   have lt440_1 : @LT.lt Nat _ a1_440 h440.size := g440_0.lt
   have lt440_2 : @LT.lt Nat _ r_440 h440.size := g440_3.lt
   refine ow (oT T440 m 148 #[oi p0, oi p1, oi p2, oi p3, oi n4, oi u5, oi u6, oi u7, oi u8, oR a1_1, oR a1_2, oR b4, oi u12, oi u13, oi u14, oi 1, .unset, .unset, .unset, .unset, .unset, .unset] [(.ref a1_440)]) (fun t k => st440 t k) ?_
   refine ow (oT T440 m 150 #[oi p0, oi p1, oi p2, oi p3, oi n4, oi u5, oi u6, oi u7, oi u8, oR a1_1, oR a1_2, oR b4, oi u12, oi u13, oi u14, oi 1, oR a1_440, .unset, .unset, .unset, .unset, .unset] []) (fun _ k => XS.astore X440.here hx rfl (hb hby at_148) rfl rfl (l' := #[oi p0, oi p1, oi p2, oi p3, oi n4, oi u5, oi u6, oi u7, oi u8, oR a1_1, oR a1_2, oR b4, oi u12, oi u13, oi u14, oi 1, oR a1_440, .unset, .unset, .unset, .unset, .unset]) rfl k) ?_
   refine ow (oT T440 m 211 #[oi p0, oi p1, oi p2, oi p3, oi n4, oi u5, oi u6, oi u7, oi u8, oR a1_1, oR a1_2, oR b4, oi u12, oi u13, oi u14, oi 1, oR a1_440, .unset, .unset, .unset, .unset, .unset] []) (fun _ k => XS.goto X440.here hx rfl (pc0 := 150) (pc' := 211) rfl (hb hby at_150) (by decide) (by decide) k) ?_
   refine ow (oT T440 m 213 #[oi p0, oi p1, oi p2, oi p3, oi n4, oi u5, oi u6, oi u7, oi u8, oR a1_1, oR a1_2, oR b4, oi u12, oi u13, oi u14, oi 1, oR a1_440, .unset, .unset, .unset, .unset, .unset] [(.int (1 : Int32))]) (fun _ k => XS.iload X440.here hx rfl (hb hby at_211) rfl k) ?_
   have hc442 : ¬ ((1 : Int32) = (0 : Int32)) := by decide
   refine ow (oT T440 m 231 #[oi p0, oi p1, oi p2, oi p3, oi n4, oi u5, oi u6, oi u7, oi u8, oR a1_1, oR a1_2, oR b4, oi u12, oi u13, oi u14, oi 1, oR a1_440, .unset, .unset, .unset, .unset, .unset] []) (fun _ k => XS.ifYes X440.here hx rfl (pc0 := 213) (pc' := 231) rfl (hb hby at_213) rfl ((if0 _ _).trans (feq hc442).2) (by decide) (by decide) k) ?_
   refine ow (oT T440 m 233 #[oi p0, oi p1, oi p2, oi p3, oi n4, oi u5, oi u6, oi u7, oi u8, oR a1_1, oR a1_2, oR b4, oi u12, oi u13, oi u14, oi 1, oR a1_440, .unset, .unset, .unset, .unset, .unset] [(.int (1 : Int32))]) (fun _ k => XS.iload X440.here hx rfl (hb hby at_231) rfl k) ?_
   refine ow (oT T440 m 234 #[oi p0, oi p1, oi p2, oi p3, oi n4, oi u5, oi u6, oi u7, oi u8, oR a1_1, oR a1_2, oR b4, oi u12, oi u13, oi u14, oi 1, oR a1_440, .unset, .unset, .unset, .unset, .unset] [(.int (1 : Int32)), (.int (1 : Int32))]) (fun _ k => XS.iconst X440.here hx rfl (hb hby at_233) k) ?_
   have hc443 : (1 : Int32) = (1 : Int32) := by decide
   refine ow (oT T440 m 237 #[oi p0, oi p1, oi p2, oi p3, oi n4, oi u5, oi u6, oi u7, oi u8, oR a1_1, oR a1_2, oR b4, oi u12, oi u13, oi u14, oi 1, oR a1_440, .unset, .unset, .unset, .unset, .unset] []) (fun _ k => XS.icmpNo X440.here hx rfl (hb hby at_234) rfl (teq hc443).2 k) ?_
   obtain ⟨T444, h444, X444, e444, E444, A444, D444, -, st444⟩ := newO X440 hx hZ hown (own_hw hw 26) (own_hw hw 10) (own_hw hw 2) e440 (g := (mkF m 237 #[oi p0, oi p1, oi p2, oi p3, oi n4, oi u5, oi u6, oi u7, oi u8, oR a1_1, oR a1_2, oR b4, oi u12, oi u13, oi u14, oi 1, oR a1_440, .unset, .unset, .unset, .unset, .unset] [])) rfl (hb hby at_237) (by decide) (by decide)
   obtain ⟨b444, g444⟩ : ∃ z, z = h440.size := ⟨_, rfl⟩
   rw [← g444] at A444 D444 st444
   have sz444 : h440.size ≤ h444.size := E444.1
   have lt444 : @LT.lt Nat _ b444 h444.size := A444.lt
   have f445 : Fld Z h444 b444 oS0 "value" "[B" .null := D444 (Or.inr (own_hw hw 23)) (ty := (.array .byte)) (by decide)
   have f446 : Fld Z h444 b444 oS0 "coder" "B" (.int (0 : Int32)) := D444 (Or.inr (own_hw hw 25)) (ty := .byte) (by decide)
   refine ow (oT T444 m 240 #[oi p0, oi p1, oi p2, oi p3, oi n4, oi u5, oi u6, oi u7, oi u8, oR a1_1, oR a1_2, oR b4, oi u12, oi u13, oi u14, oi 1, oR a1_440, .unset, .unset, .unset, .unset, .unset] [(.ref b444)]) (st444) ?_
   refine ow (oT T444 m 241 #[oi p0, oi p1, oi p2, oi p3, oi n4, oi u5, oi u6, oi u7, oi u8, oR a1_1, oR a1_2, oR b4, oi u12, oi u13, oi u14, oi 1, oR a1_440, .unset, .unset, .unset, .unset, .unset] [(.ref b444), (.ref b444)]) (fun _ k => XS.dup X444.here hx rfl (hb hby at_240) rfl rfl k) ?_
   refine ow (oT T444 m 242 #[oi p0, oi p1, oi p2, oi p3, oi n4, oi u5, oi u6, oi u7, oi u8, oR a1_1, oR a1_2, oR b4, oi u12, oi u13, oi u14, oi 1, oR a1_440, .unset, .unset, .unset, .unset, .unset] [(.int (1 : Int32)), (.ref b444), (.ref b444)]) (fun _ k => XS.iconst X444.here hx rfl (hb hby at_241) k) ?_
   obtain ⟨T447, h447, k447, X447, e447, E447, A447, st447⟩ := newP X444 hx hZ (own_hw hw 27) e444 (g := (mkF m 242 #[oi p0, oi p1, oi p2, oi p3, oi n4, oi u5, oi u6, oi u7, oi u8, oR a1_1, oR a1_2, oR b4, oi u12, oi u13, oi u14, oi 1, oR a1_440, .unset, .unset, .unset, .unset, .unset] [(.int (1 : Int32)), (.ref b444), (.ref b444)])) rfl (hb hby at_242) rfl (by decide) (cap := 1) (by decide) (by decide) (by decide) (by decide)
   obtain ⟨b447, g447⟩ : ∃ z, z = h444.size := ⟨_, rfl⟩
   rw [← g447] at A447 st447
   have sz447 : h444.size ≤ h447.size := E447.1
   have lt447 : @LT.lt Nat _ b447 h447.size := A447.lt
   have v447 : Arv Z h447 b447 k447 .char (1 : Int32) [(.int (0 : Int32))] (.int (0 : Int32)) := (Arv.new A447 (by decide)).pad (pad_rep [] (.int (0 : Int32)) 1)
   refine ow (oT T447 m 244 #[oi p0, oi p1, oi p2, oi p3, oi n4, oi u5, oi u6, oi u7, oi u8, oR a1_1, oR a1_2, oR b4, oi u12, oi u13, oi u14, oi 1, oR a1_440, .unset, .unset, .unset, .unset, .unset] [(.ref b447), (.ref b444), (.ref b444)]) (st447) ?_
   refine ow (oT T447 m 245 #[oi p0, oi p1, oi p2, oi p3, oi n4, oi u5, oi u6, oi u7, oi u8, oR a1_1, oR a1_2, oR b4, oi u12, oi u13, oi u14, oi 1, oR a1_440, .unset, .unset, .unset, .unset, .unset] [(.ref b447), (.ref b447), (.ref b444), (.ref b444)]) (fun _ k => XS.dup X447.here hx rfl (hb hby at_244) rfl rfl k) ?_
   refine ow (oT T447 m 246 #[oi p0, oi p1, oi p2, oi p3, oi n4, oi u5, oi u6, oi u7, oi u8, oR a1_1, oR a1_2, oR b4, oi u12, oi u13, oi u14, oi 1, oR a1_440, .unset, .unset, .unset, .unset, .unset] [(.int (0 : Int32)), (.ref b447), (.ref b447), (.ref b444), (.ref b444)]) (fun _ k => XS.iconst X447.here hx rfl (hb hby at_245) k) ?_
   refine ow (oT T447 m 248 #[oi p0, oi p1, oi p2, oi p3, oi n4, oi u5, oi u6, oi u7, oi u8, oR a1_1, oR a1_2, oR b4, oi u12, oi u13, oi u14, oi 1, oR a1_440, .unset, .unset, .unset, .unset, .unset] [(.int u12), (.int (0 : Int32)), (.ref b447), (.ref b447), (.ref b444), (.ref b444)]) (fun _ k => XS.iload X447.here hx rfl (hb hby at_246) rfl k) ?_
   obtain ⟨cl448, Ar448, qc448, S448, M448, H448, G448⟩ := id v447
   have hin448 : ¬ ((0 : Int32) < 0 ∨ cl448.slots.size ≤ ((0 : Int32)).toNatClampNeg) := (inb_of S448 ⟨by decide, by decide⟩)
   obtain ⟨T448, h448, X448, e448, W448, st448⟩ := stC X447 hx hZ e447 Ar448 (j := (0 : Int32)) hin448 (g := (mkF m 248 #[oi p0, oi p1, oi p2, oi p3, oi n4, oi u5, oi u6, oi u7, oi u8, oR a1_1, oR a1_2, oR b4, oi u12, oi u13, oi u14, oi 1, oR a1_440, .unset, .unset, .unset, .unset, .unset] [(.int u12), (.int (0 : Int32)), (.ref b447), (.ref b447), (.ref b444), (.ref b444)])) rfl rfl (hb hby at_248)
   have sz448 : h448.size = h447.size := W448.size
   have N448 := Fr.snoc X448 N440 (by omega)
   have v448 : Arv Z h448 b447 k447 .char (1 : Int32) [(.int (nar .char u12))] (.int (0 : Int32)) := Arv.set Ar448 qc448 S448 M448 H448 G448 (fits_nar_char _) W448 0 rfl (Nat.le_of_ble_eq_true rfl)
   refine ow (oT T448 m 249 #[oi p0, oi p1, oi p2, oi p3, oi n4, oi u5, oi u6, oi u7, oi u8, oR a1_1, oR a1_2, oR b4, oi u12, oi u13, oi u14, oi 1, oR a1_440, .unset, .unset, .unset, .unset, .unset] [(.ref b447), (.ref b444), (.ref b444)]) (st448) ?_
   have v449 : Arv Z h448 b447 k447 .char (1 : Int32) [(.int u12)] (.int (0 : Int32)) := by have q_ := v448; rw [own_lat_ch hl_u12] at q_; exact q_
   have c451 : Exa Z h448 b444 oS0 := ((A444.ext E447).wr W448)
   have c452 : Fld Z h448 b444 oS0 "value" "[B" .null := ((f445.ext E447).other W448 (Or.inl (own_ne (by omega))))
   have c453 : Fld Z h448 b444 oS0 "coder" "B" (.int (0 : Int32)) := ((f446.ext E447).other W448 (Or.inl (own_ne (by omega))))
   have c454 : Sta Z h448 oS0 oS4 "Z" (.int zc) := ((((own_sta_keep c441 K440 all0).ext E444).ext E447).wr W448)
   obtain ⟨_, _, ⟨T450, LC450, kC450, nC450⟩, -, X450, ⟨Lc450, hQ450, lq450, yq450, zq450⟩, st450⟩ := X448.specialBack hx (y := oM0) rfl hown (mvT hZ (own_hw hw 28)) (mvT hZ (own_hw hw 29)) (mvT hZ (own_hw hw 30)) (by decide) (backOf (W := 1) (rsc_1 l Z a0 hw [] b444 b447 k447 zc u12 h448 n0 (by omega) c451 c452 c453 v449 c454 (by assumption) hl_u12 (by omega) (own_ne (by omega))) hZ (own_hw hw 30) (own_hw hw 2) (by decide) (by decide)) (g := (mkF m 249 #[oi p0, oi p1, oi p2, oi p3, oi n4, oi u5, oi u6, oi u7, oi u8, oR a1_1, oR a1_2, oR b4, oi u12, oi u13, oi u14, oi 1, oR a1_440, .unset, .unset, .unset, .unset, .unset] [(.ref b447), (.ref b444), (.ref b444)])) rfl hml.symm (Steps.refl _) (a := b444) (argsL := [(.ref b447)]) (rest := [(.ref b444)]) (lenOf pd_20 rfl) rfl (Nat.le_of_eq rfl) (hb hby at_249) (fun _ _ => ⟨rfl, e448, (by decide : 11 + 1 ≤ _), (by decide : 28 + 1 ≤ _)⟩)
   dsimp only [Pt.U, Pt.locs, Pt.cells, Pt.slots] at X450 lq450 yq450 zq450 st450 hQ450
   subst lq450 yq450 zq450
   obtain ⟨h450, e450⟩ : ∃ z, T450.heap = z := ⟨_, rfl⟩
   rw [e450] at hQ450
   obtain ⟨r_450, kr_450, rfl, Nq450, K450, g450_0, g450_1, g450_2, g450_3, g450_4⟩ := hQ450
   have sz450 : h448.size ≤ h450.size := K450.1
   have N450 := Fr.app N448 Nq450
   have lt450_1 : @LT.lt Nat _ b444 h450.size := g450_0.lt
   have lt450_2 : @LT.lt Nat _ r_450 h450.size := g450_3.lt
   refine ow (oT T450 m 252 #[oi p0, oi p1, oi p2, oi p3, oi n4, oi u5, oi u6, oi u7, oi u8, oR a1_1, oR a1_2, oR b4, oi u12, oi u13, oi u14, oi 1, oR a1_440, .unset, .unset, .unset, .unset, .unset] [(.ref b444)]) (fun _ k => st450.trans k) ?_
   refine ow (oT T450 m 254 #[oi p0, oi p1, oi p2, oi p3, oi n4, oi u5, oi u6, oi u7, oi u8, oR a1_1, oR a1_2, oR b4, oi u12, oi u13, oi u14, oi 1, oR a1_440, oR b444, .unset, .unset, .unset, .unset] []) (fun _ k => XS.astore X450.here hx rfl (hb hby at_252) rfl rfl (l' := #[oi p0, oi p1, oi p2, oi p3, oi n4, oi u5, oi u6, oi u7, oi u8, oR a1_1, oR a1_2, oR b4, oi u12, oi u13, oi u14, oi 1, oR a1_440, oR b444, .unset, .unset, .unset, .unset]) rfl k) ?_
   refine ow (oT T450 m 315 #[oi p0, oi p1, oi p2, oi p3, oi n4, oi u5, oi u6, oi u7, oi u8, oR a1_1, oR a1_2, oR b4, oi u12, oi u13, oi u14, oi 1, oR a1_440, oR b444, .unset, .unset, .unset, .unset] []) (fun _ k => XS.goto X450.here hx rfl (pc0 := 254) (pc' := 315) rfl (hb hby at_254) (by decide) (by decide) k) ?_
   have KA455 : Keep h11 h450 [] := ((((((Keep.refl h11 []).trans K440 all0).ext E444).ext E447).wr W448 (Or.inr (by omega))).trans K450 (allS (P := fun x => x ∈ [] ∨ h11.size ≤ x) (Or.inr (by omega)) all0))
   have AS455 := CHr.keep (EL := own_EL) KA455 all0 AA17.1
   have AA456 := AA17.trans AS455
   have c457 : Sta Z h450 oS0 oS4 "Z" (.int zc) := (own_sta_keep c454 K450 (allS (P := fun x => ∀ c : Cell, h448[x]? = some c → c.vm.isStatics = false) (own_pl_exa c451) all0))
   have c458 : Sta Z h450 oS1 oS10 oS3 (.ref de) := (own_sta_keep ((((own_sta_keep (own_sta_keep (((((own_sta_keep (own_sta_keep pr2 K1 all0) K2 all0).ext E4).ext E7).wr W8).wr W9) K11 (allS (P := fun x => ∀ c : Cell, h9[x]? = some c → c.vm.isStatics = false) (own_pl_exa c12) all0)) K440 all0).ext E444).ext E447).wr W448) K450 (allS (P := fun x => ∀ c : Cell, h448[x]? = some c → c.vm.isStatics = false) (own_pl_exa c451) all0))
   have c459 : Arv Z h450 de kde (.object oS2) (0 : Int32) [] .null := ((((((((((((pr3.keep K1 nin0).keep K2 nin0).ext E4).ext E7).other W8 (own_ne (by omega))).other W9 (own_ne (by omega))).keep K11 (ninS (own_ne (by omega)) nin0)).keep K440 nin0).ext E444).ext E447).other W448 (own_ne (by omega))).keep K450 (ninS (own_ne (by omega)) nin0))
   have c460 : Sta Z h450 oS7 "EMPTY" oS5 (.ref em) := (own_sta_keep ((((own_sta_keep (own_sta_keep (((((own_sta_keep (own_sta_keep pr4 K1 all0) K2 all0).ext E4).ext E7).wr W8).wr W9) K11 (allS (P := fun x => ∀ c : Cell, h9[x]? = some c → c.vm.isStatics = false) (own_pl_exa c12) all0)) K440 all0).ext E444).ext E447).wr W448) K450 (allS (P := fun x => ∀ c : Cell, h448[x]? = some c → c.vm.isStatics = false) (own_pl_exa c451) all0))
   have c461 : Exa Z h450 a1_1 oS0 := (((((((((((g1_0.keep K2).ext E4).ext E7).wr W8).wr W9).keep K11).keep K440).ext E444).ext E447).wr W448).keep K450)
   have c462 : Fld Z h450 a1_1 oS0 "value" "[B" (.ref r_1) := (((((((((((g1_1.keep K2 nin0).ext E4).ext E7).other W8 (Or.inl (own_ne (by omega)))).other W9 (Or.inl (own_ne (by omega)))).keep K11 (ninS (own_ne (by omega)) nin0)).keep K440 nin0).ext E444).ext E447).other W448 (Or.inl (own_ne (by omega)))).keep K450 (ninS (own_ne (by omega)) nin0))
   have c463 : Fld Z h450 a1_1 oS0 "coder" "B" (.int (0 : Int32)) := (((((((((((g1_2.keep K2 nin0).ext E4).ext E7).other W8 (Or.inl (own_ne (by omega)))).other W9 (Or.inl (own_ne (by omega)))).keep K11 (ninS (own_ne (by omega)) nin0)).keep K440 nin0).ext E444).ext E447).other W448 (Or.inl (own_ne (by omega)))).keep K450 (ninS (own_ne (by omega)) nin0))
   have c464 : Arv Z h450 r_1 kr_1 .byte (1 : Int32) [(.int (own_by u5))] (.int (0 : Int32)) := (((((((((((g1_3.keep K2 nin0).ext E4).ext E7).other W8 (own_ne (by omega))).other W9 (own_ne (by omega))).keep K11 (ninS (own_ne (by omega)) nin0)).keep K440 nin0).ext E444).ext E447).other W448 (own_ne (by omega))).keep K450 (ninS (own_ne (by omega)) nin0))
   have c465 : Exa Z h450 a1_2 oS0 := ((((((((((g2_0.ext E4).ext E7).wr W8).wr W9).keep K11).keep K440).ext E444).ext E447).wr W448).keep K450)
   have c466 : Fld Z h450 a1_2 oS0 "value" "[B" (.ref r_2) := ((((((((((g2_1.ext E4).ext E7).other W8 (Or.inl (own_ne (by omega)))).other W9 (Or.inl (own_ne (by omega)))).keep K11 (ninS (own_ne (by omega)) nin0)).keep K440 nin0).ext E444).ext E447).other W448 (Or.inl (own_ne (by omega)))).keep K450 (ninS (own_ne (by omega)) nin0))
   have c467 : Fld Z h450 a1_2 oS0 "coder" "B" (.int (0 : Int32)) := ((((((((((g2_2.ext E4).ext E7).other W8 (Or.inl (own_ne (by omega)))).other W9 (Or.inl (own_ne (by omega)))).keep K11 (ninS (own_ne (by omega)) nin0)).keep K440 nin0).ext E444).ext E447).other W448 (Or.inl (own_ne (by omega)))).keep K450 (ninS (own_ne (by omega)) nin0))
   have c468 : Arv Z h450 r_2 kr_2 .byte (1 : Int32) [(.int (own_by u6))] (.int (0 : Int32)) := ((((((((((g2_3.ext E4).ext E7).other W8 (own_ne (by omega))).other W9 (own_ne (by omega))).keep K11 (ninS (own_ne (by omega)) nin0)).keep K440 nin0).ext E444).ext E447).other W448 (own_ne (by omega))).keep K450 (ninS (own_ne (by omega)) nin0))
   have c469 : Exa Z h450 b4 oS0 := (((((g11_0.keep K440).ext E444).ext E447).wr W448).keep K450)
   have c470 : Fld Z h450 b4 oS0 "value" "[B" (.ref r_11) := (((((g11_1.keep K440 nin0).ext E444).ext E447).other W448 (Or.inl (own_ne (by omega)))).keep K450 (ninS (own_ne (by omega)) nin0))
   have c471 : Fld Z h450 b4 oS0 "coder" "B" (.int (0 : Int32)) := (((((g11_2.keep K440 nin0).ext E444).ext E447).other W448 (Or.inl (own_ne (by omega)))).keep K450 (ninS (own_ne (by omega)) nin0))
   have c472 : Arv Z h450 r_11 kr_11 .byte (2 : Int32) [(.int (own_by u7)), (.int (own_by u8))] (.int (0 : Int32)) := (((((g11_3.keep K440 nin0).ext E444).ext E447).other W448 (own_ne (by omega))).keep K450 (ninS (own_ne (by omega)) nin0))
   have c473 : Exa Z h450 a1_440 oS0 := ((((g440_0.ext E444).ext E447).wr W448).keep K450)
   have c474 : Fld Z h450 a1_440 oS0 "value" "[B" (.ref r_440) := ((((g440_1.ext E444).ext E447).other W448 (Or.inl (own_ne (by omega)))).keep K450 (ninS (own_ne (by omega)) nin0))
   have c475 : Fld Z h450 a1_440 oS0 "coder" "B" (.int (0 : Int32)) := ((((g440_2.ext E444).ext E447).other W448 (Or.inl (own_ne (by omega)))).keep K450 (ninS (own_ne (by omega)) nin0))
   have c476 : Arv Z h450 r_440 kr_440 .byte (1 : Int32) [(.int (own_by u12))] (.int (0 : Int32)) := ((((g440_3.ext E444).ext E447).other W448 (own_ne (by omega))).keep K450 (ninS (own_ne (by omega)) nin0))
   exact J315_18 _ _ _ a1_440 b444 r_440 r_450 kr_440 kr_450 _ _ (own_widen X450 (by decide) (by decide)) e450 N450 hS0 (by omega) hZ hown AA456 (show @Ne Nat a1_440 b444 by omega) (by omega) c457 c458 c459 c460 c461 c462 c463 c464 c465 c466 c467 c468 c469 c470 c471 c472 c473 c474 c475 c476 g450_0 g450_1 g450_2 g450_3
  ·
   refine ow (oT T11 m 119 #[oi p0, oi p1, oi p2, oi p3, oi n4, oi u5, oi u6, oi u7, oi u8, oR a1_1, oR a1_2, oR b4, oi u12, oi u13, oi u14, oi 2, .unset, .unset, .unset, .unset, .unset, .unset] [(.int (2 : Int32))]) (fun _ k => XS.iload X11.here hx rfl (hb hby at_117) rfl k) ?_
   have hc477 : ¬ ((2 : Int32) = (0 : Int32)) := by decide
   refine ow (oT T11 m 137 #[oi p0, oi p1, oi p2, oi p3, oi n4, oi u5, oi u6, oi u7, oi u8, oR a1_1, oR a1_2, oR b4, oi u12, oi u13, oi u14, oi 2, .unset, .unset, .unset, .unset, .unset, .unset] []) (fun _ k => XS.ifYes X11.here hx rfl (pc0 := 119) (pc' := 137) rfl (hb hby at_119) rfl ((if0 _ _).trans (feq hc477).2) (by decide) (by decide) k) ?_
   refine ow (oT T11 m 139 #[oi p0, oi p1, oi p2, oi p3, oi n4, oi u5, oi u6, oi u7, oi u8, oR a1_1, oR a1_2, oR b4, oi u12, oi u13, oi u14, oi 2, .unset, .unset, .unset, .unset, .unset, .unset] [(.int (2 : Int32))]) (fun _ k => XS.iload X11.here hx rfl (hb hby at_137) rfl k) ?_
   refine ow (oT T11 m 140 #[oi p0, oi p1, oi p2, oi p3, oi n4, oi u5, oi u6, oi u7, oi u8, oR a1_1, oR a1_2, oR b4, oi u12, oi u13, oi u14, oi 2, .unset, .unset, .unset, .unset, .unset, .unset] [(.int (1 : Int32)), (.int (2 : Int32))]) (fun _ k => XS.iconst X11.here hx rfl (hb hby at_139) k) ?_
   have hc478 : ¬ ((2 : Int32) = (1 : Int32)) := by decide
   refine ow (oT T11 m 153 #[oi p0, oi p1, oi p2, oi p3, oi n4, oi u5, oi u6, oi u7, oi u8, oR a1_1, oR a1_2, oR b4, oi u12, oi u13, oi u14, oi 2, .unset, .unset, .unset, .unset, .unset, .unset] []) (fun _ k => XS.icmpYes X11.here hx rfl (pc0 := 140) (pc' := 153) rfl (hb hby at_140) rfl (feq hc478).2 (by decide) (by decide) k) ?_
   refine ow (oT T11 m 155 #[oi p0, oi p1, oi p2, oi p3, oi n4, oi u5, oi u6, oi u7, oi u8, oR a1_1, oR a1_2, oR b4, oi u12, oi u13, oi u14, oi 2, .unset, .unset, .unset, .unset, .unset, .unset] [(.int (2 : Int32))]) (fun _ k => XS.iload X11.here hx rfl (hb hby at_153) rfl k) ?_
   refine ow (oT T11 m 156 #[oi p0, oi p1, oi p2, oi p3, oi n4, oi u5, oi u6, oi u7, oi u8, oR a1_1, oR a1_2, oR b4, oi u12, oi u13, oi u14, oi 2, .unset, .unset, .unset, .unset, .unset, .unset] [(.int (2 : Int32)), (.int (2 : Int32))]) (fun _ k => XS.iconst X11.here hx rfl (hb hby at_155) k) ?_
   have hc479 : (2 : Int32) = (2 : Int32) := by decide
   refine ow (oT T11 m 159 #[oi p0, oi p1, oi p2, oi p3, oi n4, oi u5, oi u6, oi u7, oi u8, oR a1_1, oR a1_2, oR b4, oi u12, oi u13, oi u14, oi 2, .unset, .unset, .unset, .unset, .unset, .unset] []) (fun _ k => XS.icmpNo X11.here hx rfl (hb hby at_156) rfl (teq hc479).2 k) ?_
   obtain ⟨T480, h480, X480, e480, E480, A480, D480, -, st480⟩ := newO X11 hx hZ hown (own_hw hw 26) (own_hw hw 10) (own_hw hw 2) e11 (g := (mkF m 159 #[oi p0, oi p1, oi p2, oi p3, oi n4, oi u5, oi u6, oi u7, oi u8, oR a1_1, oR a1_2, oR b4, oi u12, oi u13, oi u14, oi 2, .unset, .unset, .unset, .unset, .unset, .unset] [])) rfl (hb hby at_159) (by decide) (by decide)
   obtain ⟨b480, g480⟩ : ∃ z, z = h11.size := ⟨_, rfl⟩
   rw [← g480] at A480 D480 st480
   have sz480 : h11.size ≤ h480.size := E480.1
   have lt480 : @LT.lt Nat _ b480 h480.size := A480.lt
   have f481 : Fld Z h480 b480 oS0 "value" "[B" .null := D480 (Or.inr (own_hw hw 23)) (ty := (.array .byte)) (by decide)
   have f482 : Fld Z h480 b480 oS0 "coder" "B" (.int (0 : Int32)) := D480 (Or.inr (own_hw hw 25)) (ty := .byte) (by decide)
   refine ow (oT T480 m 162 #[oi p0, oi p1, oi p2, oi p3, oi n4, oi u5, oi u6, oi u7, oi u8, oR a1_1, oR a1_2, oR b4, oi u12, oi u13, oi u14, oi 2, .unset, .unset, .unset, .unset, .unset, .unset] [(.ref b480)]) (st480) ?_
   refine ow (oT T480 m 163 #[oi p0, oi p1, oi p2, oi p3, oi n4, oi u5, oi u6, oi u7, oi u8, oR a1_1, oR a1_2, oR b4, oi u12, oi u13, oi u14, oi 2, .unset, .unset, .unset, .unset, .unset, .unset] [(.ref b480), (.ref b480)]) (fun _ k => XS.dup X480.here hx rfl (hb hby at_162) rfl rfl k) ?_
   refine ow (oT T480 m 164 #[oi p0, oi p1, oi p2, oi p3, oi n4, oi u5, oi u6, oi u7, oi u8, oR a1_1, oR a1_2, oR b4, oi u12, oi u13, oi u14, oi 2, .unset, .unset, .unset, .unset, .unset, .unset] [(.int (2 : Int32)), (.ref b480), (.ref b480)]) (fun _ k => XS.iconst X480.here hx rfl (hb hby at_163) k) ?_
   obtain ⟨T483, h483, k483, X483, e483, E483, A483, st483⟩ := newP X480 hx hZ (own_hw hw 27) e480 (g := (mkF m 164 #[oi p0, oi p1, oi p2, oi p3, oi n4, oi u5, oi u6, oi u7, oi u8, oR a1_1, oR a1_2, oR b4, oi u12, oi u13, oi u14, oi 2, .unset, .unset, .unset, .unset, .unset, .unset] [(.int (2 : Int32)), (.ref b480), (.ref b480)])) rfl (hb hby at_164) rfl (by decide) (cap := 2) (by decide) (by decide) (by decide) (by decide)
   obtain ⟨b483, g483⟩ : ∃ z, z = h480.size := ⟨_, rfl⟩
   rw [← g483] at A483 st483
   have sz483 : h480.size ≤ h483.size := E483.1
   have lt483 : @LT.lt Nat _ b483 h483.size := A483.lt
   have v483 : Arv Z h483 b483 k483 .char (2 : Int32) [(.int (0 : Int32)), (.int (0 : Int32))] (.int (0 : Int32)) := (Arv.new A483 (by decide)).pad (pad_rep [] (.int (0 : Int32)) 2)
   refine ow (oT T483 m 166 #[oi p0, oi p1, oi p2, oi p3, oi n4, oi u5, oi u6, oi u7, oi u8, oR a1_1, oR a1_2, oR b4, oi u12, oi u13, oi u14, oi 2, .unset, .unset, .unset, .unset, .unset, .unset] [(.ref b483), (.ref b480), (.ref b480)]) (st483) ?_
   refine ow (oT T483 m 167 #[oi p0, oi p1, oi p2, oi p3, oi n4, oi u5, oi u6, oi u7, oi u8, oR a1_1, oR a1_2, oR b4, oi u12, oi u13, oi u14, oi 2, .unset, .unset, .unset, .unset, .unset, .unset] [(.ref b483), (.ref b483), (.ref b480), (.ref b480)]) (fun _ k => XS.dup X483.here hx rfl (hb hby at_166) rfl rfl k) ?_
   refine ow (oT T483 m 168 #[oi p0, oi p1, oi p2, oi p3, oi n4, oi u5, oi u6, oi u7, oi u8, oR a1_1, oR a1_2, oR b4, oi u12, oi u13, oi u14, oi 2, .unset, .unset, .unset, .unset, .unset, .unset] [(.int (0 : Int32)), (.ref b483), (.ref b483), (.ref b480), (.ref b480)]) (fun _ k => XS.iconst X483.here hx rfl (hb hby at_167) k) ?_
   refine ow (oT T483 m 170 #[oi p0, oi p1, oi p2, oi p3, oi n4, oi u5, oi u6, oi u7, oi u8, oR a1_1, oR a1_2, oR b4, oi u12, oi u13, oi u14, oi 2, .unset, .unset, .unset, .unset, .unset, .unset] [(.int u12), (.int (0 : Int32)), (.ref b483), (.ref b483), (.ref b480), (.ref b480)]) (fun _ k => XS.iload X483.here hx rfl (hb hby at_168) rfl k) ?_
   obtain ⟨cl484, Ar484, qc484, S484, M484, H484, G484⟩ := id v483
   have hin484 : ¬ ((0 : Int32) < 0 ∨ cl484.slots.size ≤ ((0 : Int32)).toNatClampNeg) := (inb_of S484 ⟨by decide, by decide⟩)
   obtain ⟨T484, h484, X484, e484, W484, st484⟩ := stC X483 hx hZ e483 Ar484 (j := (0 : Int32)) hin484 (g := (mkF m 170 #[oi p0, oi p1, oi p2, oi p3, oi n4, oi u5, oi u6, oi u7, oi u8, oR a1_1, oR a1_2, oR b4, oi u12, oi u13, oi u14, oi 2, .unset, .unset, .unset, .unset, .unset, .unset] [(.int u12), (.int (0 : Int32)), (.ref b483), (.ref b483), (.ref b480), (.ref b480)])) rfl rfl (hb hby at_170)
   have sz484 : h484.size = h483.size := W484.size
   have N484 := Fr.snoc X484 N11 (by omega)
   have v484 : Arv Z h484 b483 k483 .char (2 : Int32) [(.int (nar .char u12)), (.int (0 : Int32))] (.int (0 : Int32)) := Arv.set Ar484 qc484 S484 M484 H484 G484 (fits_nar_char _) W484 0 rfl (Nat.le_of_ble_eq_true rfl)
   refine ow (oT T484 m 171 #[oi p0, oi p1, oi p2, oi p3, oi n4, oi u5, oi u6, oi u7, oi u8, oR a1_1, oR a1_2, oR b4, oi u12, oi u13, oi u14, oi 2, .unset, .unset, .unset, .unset, .unset, .unset] [(.ref b483), (.ref b480), (.ref b480)]) (st484) ?_
   refine ow (oT T484 m 172 #[oi p0, oi p1, oi p2, oi p3, oi n4, oi u5, oi u6, oi u7, oi u8, oR a1_1, oR a1_2, oR b4, oi u12, oi u13, oi u14, oi 2, .unset, .unset, .unset, .unset, .unset, .unset] [(.ref b483), (.ref b483), (.ref b480), (.ref b480)]) (fun _ k => XS.dup X484.here hx rfl (hb hby at_171) rfl rfl k) ?_
   refine ow (oT T484 m 173 #[oi p0, oi p1, oi p2, oi p3, oi n4, oi u5, oi u6, oi u7, oi u8, oR a1_1, oR a1_2, oR b4, oi u12, oi u13, oi u14, oi 2, .unset, .unset, .unset, .unset, .unset, .unset] [(.int (1 : Int32)), (.ref b483), (.ref b483), (.ref b480), (.ref b480)]) (fun _ k => XS.iconst X484.here hx rfl (hb hby at_172) k) ?_
   refine ow (oT T484 m 175 #[oi p0, oi p1, oi p2, oi p3, oi n4, oi u5, oi u6, oi u7, oi u8, oR a1_1, oR a1_2, oR b4, oi u12, oi u13, oi u14, oi 2, .unset, .unset, .unset, .unset, .unset, .unset] [(.int u13), (.int (1 : Int32)), (.ref b483), (.ref b483), (.ref b480), (.ref b480)]) (fun _ k => XS.iload X484.here hx rfl (hb hby at_173) rfl k) ?_
   obtain ⟨cl485, Ar485, qc485, S485, M485, H485, G485⟩ := id v484
   have hin485 : ¬ ((1 : Int32) < 0 ∨ cl485.slots.size ≤ ((1 : Int32)).toNatClampNeg) := (inb_of S485 ⟨by decide, by decide⟩)
   obtain ⟨T485, h485, X485, e485, W485, st485⟩ := stC X484 hx hZ e484 Ar485 (j := (1 : Int32)) hin485 (g := (mkF m 175 #[oi p0, oi p1, oi p2, oi p3, oi n4, oi u5, oi u6, oi u7, oi u8, oR a1_1, oR a1_2, oR b4, oi u12, oi u13, oi u14, oi 2, .unset, .unset, .unset, .unset, .unset, .unset] [(.int u13), (.int (1 : Int32)), (.ref b483), (.ref b483), (.ref b480), (.ref b480)])) rfl rfl (hb hby at_175)
   have sz485 : h485.size = h484.size := W485.size
   have N485 := Fr.snoc X485 N484 (by omega)
   have v485 : Arv Z h485 b483 k483 .char (2 : Int32) [(.int (nar .char u12)), (.int (nar .char u13))] (.int (0 : Int32)) := Arv.set Ar485 qc485 S485 M485 H485 G485 (fits_nar_char _) W485 1 rfl (Nat.le_of_ble_eq_true rfl)
   refine ow (oT T485 m 176 #[oi p0, oi p1, oi p2, oi p3, oi n4, oi u5, oi u6, oi u7, oi u8, oR a1_1, oR a1_2, oR b4, oi u12, oi u13, oi u14, oi 2, .unset, .unset, .unset, .unset, .unset, .unset] [(.ref b483), (.ref b480), (.ref b480)]) (st485) ?_
   have v486 : Arv Z h485 b483 k483 .char (2 : Int32) [(.int u12), (.int u13)] (.int (0 : Int32)) := by have q_ := v485; rw [own_lat_ch hl_u12, own_lat_ch hl_u13] at q_; exact q_
   have c488 : Exa Z h485 b480 oS0 := (((A480.ext E483).wr W484).wr W485)
   have c489 : Fld Z h485 b480 oS0 "value" "[B" .null := (((f481.ext E483).other W484 (Or.inl (own_ne (by omega)))).other W485 (Or.inl (own_ne (by omega))))
   have c490 : Fld Z h485 b480 oS0 "coder" "B" (.int (0 : Int32)) := (((f482.ext E483).other W484 (Or.inl (own_ne (by omega)))).other W485 (Or.inl (own_ne (by omega))))
   have c491 : Sta Z h485 oS0 oS4 "Z" (.int zc) := (((((own_sta_keep c15 K11 (allS (P := fun x => ∀ c : Cell, h9[x]? = some c → c.vm.isStatics = false) (own_pl_exa c12) all0)).ext E480).ext E483).wr W484).wr W485)
   obtain ⟨_, _, ⟨T487, LC487, kC487, nC487⟩, -, X487, ⟨Lc487, hQ487, lq487, yq487, zq487⟩, st487⟩ := X485.specialBack hx (y := oM0) rfl hown (mvT hZ (own_hw hw 28)) (mvT hZ (own_hw hw 29)) (mvT hZ (own_hw hw 30)) (by decide) (backOf (W := 1) (rsc_2 l Z a0 hw [] b480 b483 k483 zc u12 u13 h485 n0 (by omega) c488 c489 c490 v486 c491 (by assumption) hl_u12 hl_u13 (by omega) (own_ne (by omega))) hZ (own_hw hw 30) (own_hw hw 2) (by decide) (by decide)) (g := (mkF m 176 #[oi p0, oi p1, oi p2, oi p3, oi n4, oi u5, oi u6, oi u7, oi u8, oR a1_1, oR a1_2, oR b4, oi u12, oi u13, oi u14, oi 2, .unset, .unset, .unset, .unset, .unset, .unset] [(.ref b483), (.ref b480), (.ref b480)])) rfl hml.symm (Steps.refl _) (a := b480) (argsL := [(.ref b483)]) (rest := [(.ref b480)]) (lenOf pd_20 rfl) rfl (Nat.le_of_eq rfl) (hb hby at_176) (fun _ _ => ⟨rfl, e485, (by decide : 9 + 1 ≤ _), (by decide : 24 + 2 ≤ _)⟩)
   dsimp only [Pt.U, Pt.locs, Pt.cells, Pt.slots] at X487 lq487 yq487 zq487 st487 hQ487
   subst lq487 yq487 zq487
   obtain ⟨h487, e487⟩ : ∃ z, T487.heap = z := ⟨_, rfl⟩
   rw [e487] at hQ487
   obtain ⟨r_487, kr_487, rfl, Nq487, K487, g487_0, g487_1, g487_2, g487_3, g487_4⟩ := hQ487
   have sz487 : h485.size ≤ h487.size := K487.1
   have N487 := Fr.app N485 Nq487
   have lt487_1 : @LT.lt Nat _ b480 h487.size := g487_0.lt
   have lt487_2 : @LT.lt Nat _ r_487 h487.size := g487_3.lt
   refine ow (oT T487 m 179 #[oi p0, oi p1, oi p2, oi p3, oi n4, oi u5, oi u6, oi u7, oi u8, oR a1_1, oR a1_2, oR b4, oi u12, oi u13, oi u14, oi 2, .unset, .unset, .unset, .unset, .unset, .unset] [(.ref b480)]) (fun _ k => st487.trans k) ?_
   refine ow (oT T487 m 181 #[oi p0, oi p1, oi p2, oi p3, oi n4, oi u5, oi u6, oi u7, oi u8, oR a1_1, oR a1_2, oR b4, oi u12, oi u13, oi u14, oi 2, oR b480, .unset, .unset, .unset, .unset, .unset] []) (fun _ k => XS.astore X487.here hx rfl (hb hby at_179) rfl rfl (l' := #[oi p0, oi p1, oi p2, oi p3, oi n4, oi u5, oi u6, oi u7, oi u8, oR a1_1, oR a1_2, oR b4, oi u12, oi u13, oi u14, oi 2, oR b480, .unset, .unset, .unset, .unset, .unset]) rfl k) ?_
   refine ow (oT T487 m 211 #[oi p0, oi p1, oi p2, oi p3, oi n4, oi u5, oi u6, oi u7, oi u8, oR a1_1, oR a1_2, oR b4, oi u12, oi u13, oi u14, oi 2, oR b480, .unset, .unset, .unset, .unset, .unset] []) (fun _ k => XS.goto X487.here hx rfl (pc0 := 181) (pc' := 211) rfl (hb hby at_181) (by decide) (by decide) k) ?_
   refine ow (oT T487 m 213 #[oi p0, oi p1, oi p2, oi p3, oi n4, oi u5, oi u6, oi u7, oi u8, oR a1_1, oR a1_2, oR b4, oi u12, oi u13, oi u14, oi 2, oR b480, .unset, .unset, .unset, .unset, .unset] [(.int (2 : Int32))]) (fun _ k => XS.iload X487.here hx rfl (hb hby at_211) rfl k) ?_
   have hc492 : ¬ ((2 : Int32) = (0 : Int32)) := by decide
   refine ow (oT T487 m 231 #[oi p0, oi p1, oi p2, oi p3, oi n4, oi u5, oi u6, oi u7, oi u8, oR a1_1, oR a1_2, oR b4, oi u12, oi u13, oi u14, oi 2, oR b480, .unset, .unset, .unset, .unset, .unset] []) (fun _ k => XS.ifYes X487.here hx rfl (pc0 := 213) (pc' := 231) rfl (hb hby at_213) rfl ((if0 _ _).trans (feq hc492).2) (by decide) (by decide) k) ?_
   refine ow (oT T487 m 233 #[oi p0, oi p1, oi p2, oi p3, oi n4, oi u5, oi u6, oi u7, oi u8, oR a1_1, oR a1_2, oR b4, oi u12, oi u13, oi u14, oi 2, oR b480, .unset, .unset, .unset, .unset, .unset] [(.int (2 : Int32))]) (fun _ k => XS.iload X487.here hx rfl (hb hby at_231) rfl k) ?_
   refine ow (oT T487 m 234 #[oi p0, oi p1, oi p2, oi p3, oi n4, oi u5, oi u6, oi u7, oi u8, oR a1_1, oR a1_2, oR b4, oi u12, oi u13, oi u14, oi 2, oR b480, .unset, .unset, .unset, .unset, .unset] [(.int (1 : Int32)), (.int (2 : Int32))]) (fun _ k => XS.iconst X487.here hx rfl (hb hby at_233) k) ?_
   have hc493 : ¬ ((2 : Int32) = (1 : Int32)) := by decide
   refine ow (oT T487 m 257 #[oi p0, oi p1, oi p2, oi p3, oi n4, oi u5, oi u6, oi u7, oi u8, oR a1_1, oR a1_2, oR b4, oi u12, oi u13, oi u14, oi 2, oR b480, .unset, .unset, .unset, .unset, .unset] []) (fun _ k => XS.icmpYes X487.here hx rfl (pc0 := 234) (pc' := 257) rfl (hb hby at_234) rfl (feq hc493).2 (by decide) (by decide) k) ?_
   refine ow (oT T487 m 259 #[oi p0, oi p1, oi p2, oi p3, oi n4, oi u5, oi u6, oi u7, oi u8, oR a1_1, oR a1_2, oR b4, oi u12, oi u13, oi u14, oi 2, oR b480, .unset, .unset, .unset, .unset, .unset] [(.int (2 : Int32))]) (fun _ k => XS.iload X487.here hx rfl (hb hby at_257) rfl k) ?_
   refine ow (oT T487 m 260 #[oi p0, oi p1, oi p2, oi p3, oi n4, oi u5, oi u6, oi u7, oi u8, oR a1_1, oR a1_2, oR b4, oi u12, oi u13, oi u14, oi 2, oR b480, .unset, .unset, .unset, .unset, .unset] [(.int (2 : Int32)), (.int (2 : Int32))]) (fun _ k => XS.iconst X487.here hx rfl (hb hby at_259) k) ?_
   have hc494 : (2 : Int32) = (2 : Int32) := by decide
   refine ow (oT T487 m 263 #[oi p0, oi p1, oi p2, oi p3, oi n4, oi u5, oi u6, oi u7, oi u8, oR a1_1, oR a1_2, oR b4, oi u12, oi u13, oi u14, oi 2, oR b480, .unset, .unset, .unset, .unset, .unset] []) (fun _ k => XS.icmpNo X487.here hx rfl (hb hby at_260) rfl (teq hc494).2 k) ?_
   obtain ⟨T495, h495, X495, e495, E495, A495, D495, -, st495⟩ := newO X487 hx hZ hown (own_hw hw 26) (own_hw hw 10) (own_hw hw 2) e487 (g := (mkF m 263 #[oi p0, oi p1, oi p2, oi p3, oi n4, oi u5, oi u6, oi u7, oi u8, oR a1_1, oR a1_2, oR b4, oi u12, oi u13, oi u14, oi 2, oR b480, .unset, .unset, .unset, .unset, .unset] [])) rfl (hb hby at_263) (by decide) (by decide)
   obtain ⟨b495, g495⟩ : ∃ z, z = h487.size := ⟨_, rfl⟩
   rw [← g495] at A495 D495 st495
   have sz495 : h487.size ≤ h495.size := E495.1
   have lt495 : @LT.lt Nat _ b495 h495.size := A495.lt
   have f496 : Fld Z h495 b495 oS0 "value" "[B" .null := D495 (Or.inr (own_hw hw 23)) (ty := (.array .byte)) (by decide)
   have f497 : Fld Z h495 b495 oS0 "coder" "B" (.int (0 : Int32)) := D495 (Or.inr (own_hw hw 25)) (ty := .byte) (by decide)
   refine ow (oT T495 m 266 #[oi p0, oi p1, oi p2, oi p3, oi n4, oi u5, oi u6, oi u7, oi u8, oR a1_1, oR a1_2, oR b4, oi u12, oi u13, oi u14, oi 2, oR b480, .unset, .unset, .unset, .unset, .unset] [(.ref b495)]) (st495) ?_
   refine ow (oT T495 m 267 #[oi p0, oi p1, oi p2, oi p3, oi n4, oi u5, oi u6, oi u7, oi u8, oR a1_1, oR a1_2, oR b4, oi u12, oi u13, oi u14, oi 2, oR b480, .unset, .unset, .unset, .unset, .unset] [(.ref b495), (.ref b495)]) (fun _ k => XS.dup X495.here hx rfl (hb hby at_266) rfl rfl k) ?_
   refine ow (oT T495 m 268 #[oi p0, oi p1, oi p2, oi p3, oi n4, oi u5, oi u6, oi u7, oi u8, oR a1_1, oR a1_2, oR b4, oi u12, oi u13, oi u14, oi 2, oR b480, .unset, .unset, .unset, .unset, .unset] [(.int (2 : Int32)), (.ref b495), (.ref b495)]) (fun _ k => XS.iconst X495.here hx rfl (hb hby at_267) k) ?_
   obtain ⟨T498, h498, k498, X498, e498, E498, A498, st498⟩ := newP X495 hx hZ (own_hw hw 27) e495 (g := (mkF m 268 #[oi p0, oi p1, oi p2, oi p3, oi n4, oi u5, oi u6, oi u7, oi u8, oR a1_1, oR a1_2, oR b4, oi u12, oi u13, oi u14, oi 2, oR b480, .unset, .unset, .unset, .unset, .unset] [(.int (2 : Int32)), (.ref b495), (.ref b495)])) rfl (hb hby at_268) rfl (by decide) (cap := 2) (by decide) (by decide) (by decide) (by decide)
   obtain ⟨b498, g498⟩ : ∃ z, z = h495.size := ⟨_, rfl⟩
   rw [← g498] at A498 st498
   have sz498 : h495.size ≤ h498.size := E498.1
   have lt498 : @LT.lt Nat _ b498 h498.size := A498.lt
   have v498 : Arv Z h498 b498 k498 .char (2 : Int32) [(.int (0 : Int32)), (.int (0 : Int32))] (.int (0 : Int32)) := (Arv.new A498 (by decide)).pad (pad_rep [] (.int (0 : Int32)) 2)
   refine ow (oT T498 m 270 #[oi p0, oi p1, oi p2, oi p3, oi n4, oi u5, oi u6, oi u7, oi u8, oR a1_1, oR a1_2, oR b4, oi u12, oi u13, oi u14, oi 2, oR b480, .unset, .unset, .unset, .unset, .unset] [(.ref b498), (.ref b495), (.ref b495)]) (st498) ?_
   refine ow (oT T498 m 271 #[oi p0, oi p1, oi p2, oi p3, oi n4, oi u5, oi u6, oi u7, oi u8, oR a1_1, oR a1_2, oR b4, oi u12, oi u13, oi u14, oi 2, oR b480, .unset, .unset, .unset, .unset, .unset] [(.ref b498), (.ref b498), (.ref b495), (.ref b495)]) (fun _ k => XS.dup X498.here hx rfl (hb hby at_270) rfl rfl k) ?_
   refine ow (oT T498 m 272 #[oi p0, oi p1, oi p2, oi p3, oi n4, oi u5, oi u6, oi u7, oi u8, oR a1_1, oR a1_2, oR b4, oi u12, oi u13, oi u14, oi 2, oR b480, .unset, .unset, .unset, .unset, .unset] [(.int (0 : Int32)), (.ref b498), (.ref b498), (.ref b495), (.ref b495)]) (fun _ k => XS.iconst X498.here hx rfl (hb hby at_271) k) ?_
   refine ow (oT T498 m 274 #[oi p0, oi p1, oi p2, oi p3, oi n4, oi u5, oi u6, oi u7, oi u8, oR a1_1, oR a1_2, oR b4, oi u12, oi u13, oi u14, oi 2, oR b480, .unset, .unset, .unset, .unset, .unset] [(.int u12), (.int (0 : Int32)), (.ref b498), (.ref b498), (.ref b495), (.ref b495)]) (fun _ k => XS.iload X498.here hx rfl (hb hby at_272) rfl k) ?_
   obtain ⟨cl499, Ar499, qc499, S499, M499, H499, G499⟩ := id v498
   have hin499 : ¬ ((0 : Int32) < 0 ∨ cl499.slots.size ≤ ((0 : Int32)).toNatClampNeg) := (inb_of S499 ⟨by decide, by decide⟩)
   obtain ⟨T499, h499, X499, e499, W499, st499⟩ := stC X498 hx hZ e498 Ar499 (j := (0 : Int32)) hin499 (g := (mkF m 274 #[oi p0, oi p1, oi p2, oi p3, oi n4, oi u5, oi u6, oi u7, oi u8, oR a1_1, oR a1_2, oR b4, oi u12, oi u13, oi u14, oi 2, oR b480, .unset, .unset, .unset, .unset, .unset] [(.int u12), (.int (0 : Int32)), (.ref b498), (.ref b498), (.ref b495), (.ref b495)])) rfl rfl (hb hby at_274)
   have sz499 : h499.size = h498.size := W499.size
   have N499 := Fr.snoc X499 N487 (by omega)
   have v499 : Arv Z h499 b498 k498 .char (2 : Int32) [(.int (nar .char u12)), (.int (0 : Int32))] (.int (0 : Int32)) := Arv.set Ar499 qc499 S499 M499 H499 G499 (fits_nar_char _) W499 0 rfl (Nat.le_of_ble_eq_true rfl)
   refine ow (oT T499 m 275 #[oi p0, oi p1, oi p2, oi p3, oi n4, oi u5, oi u6, oi u7, oi u8, oR a1_1, oR a1_2, oR b4, oi u12, oi u13, oi u14, oi 2, oR b480, .unset, .unset, .unset, .unset, .unset] [(.ref b498), (.ref b495), (.ref b495)]) (st499) ?_
   refine ow (oT T499 m 276 #[oi p0, oi p1, oi p2, oi p3, oi n4, oi u5, oi u6, oi u7, oi u8, oR a1_1, oR a1_2, oR b4, oi u12, oi u13, oi u14, oi 2, oR b480, .unset, .unset, .unset, .unset, .unset] [(.ref b498), (.ref b498), (.ref b495), (.ref b495)]) (fun _ k => XS.dup X499.here hx rfl (hb hby at_275) rfl rfl k) ?_
   refine ow (oT T499 m 277 #[oi p0, oi p1, oi p2, oi p3, oi n4, oi u5, oi u6, oi u7, oi u8, oR a1_1, oR a1_2, oR b4, oi u12, oi u13, oi u14, oi 2, oR b480, .unset, .unset, .unset, .unset, .unset] [(.int (1 : Int32)), (.ref b498), (.ref b498), (.ref b495), (.ref b495)]) (fun _ k => XS.iconst X499.here hx rfl (hb hby at_276) k) ?_
   refine ow (oT T499 m 279 #[oi p0, oi p1, oi p2, oi p3, oi n4, oi u5, oi u6, oi u7, oi u8, oR a1_1, oR a1_2, oR b4, oi u12, oi u13, oi u14, oi 2, oR b480, .unset, .unset, .unset, .unset, .unset] [(.int u13), (.int (1 : Int32)), (.ref b498), (.ref b498), (.ref b495), (.ref b495)]) (fun _ k => XS.iload X499.here hx rfl (hb hby at_277) rfl k) ?_
   obtain ⟨cl500, Ar500, qc500, S500, M500, H500, G500⟩ := id v499
   have hin500 : ¬ ((1 : Int32) < 0 ∨ cl500.slots.size ≤ ((1 : Int32)).toNatClampNeg) := (inb_of S500 ⟨by decide, by decide⟩)
   obtain ⟨T500, h500, X500, e500, W500, st500⟩ := stC X499 hx hZ e499 Ar500 (j := (1 : Int32)) hin500 (g := (mkF m 279 #[oi p0, oi p1, oi p2, oi p3, oi n4, oi u5, oi u6, oi u7, oi u8, oR a1_1, oR a1_2, oR b4, oi u12, oi u13, oi u14, oi 2, oR b480, .unset, .unset, .unset, .unset, .unset] [(.int u13), (.int (1 : Int32)), (.ref b498), (.ref b498), (.ref b495), (.ref b495)])) rfl rfl (hb hby at_279)
   have sz500 : h500.size = h499.size := W500.size
   have N500 := Fr.snoc X500 N499 (by omega)
   have v500 : Arv Z h500 b498 k498 .char (2 : Int32) [(.int (nar .char u12)), (.int (nar .char u13))] (.int (0 : Int32)) := Arv.set Ar500 qc500 S500 M500 H500 G500 (fits_nar_char _) W500 1 rfl (Nat.le_of_ble_eq_true rfl)
   refine ow (oT T500 m 280 #[oi p0, oi p1, oi p2, oi p3, oi n4, oi u5, oi u6, oi u7, oi u8, oR a1_1, oR a1_2, oR b4, oi u12, oi u13, oi u14, oi 2, oR b480, .unset, .unset, .unset, .unset, .unset] [(.ref b498), (.ref b495), (.ref b495)]) (st500) ?_
   have v501 : Arv Z h500 b498 k498 .char (2 : Int32) [(.int u12), (.int u13)] (.int (0 : Int32)) := by have q_ := v500; rw [own_lat_ch hl_u12, own_lat_ch hl_u13] at q_; exact q_
   have c503 : Exa Z h500 b495 oS0 := (((A495.ext E498).wr W499).wr W500)
   have c504 : Fld Z h500 b495 oS0 "value" "[B" .null := (((f496.ext E498).other W499 (Or.inl (own_ne (by omega)))).other W500 (Or.inl (own_ne (by omega))))
   have c505 : Fld Z h500 b495 oS0 "coder" "B" (.int (0 : Int32)) := (((f497.ext E498).other W499 (Or.inl (own_ne (by omega)))).other W500 (Or.inl (own_ne (by omega))))
   have c506 : Sta Z h500 oS0 oS4 "Z" (.int zc) := (((((own_sta_keep c491 K487 (allS (P := fun x => ∀ c : Cell, h485[x]? = some c → c.vm.isStatics = false) (own_pl_exa c488) all0)).ext E495).ext E498).wr W499).wr W500)
   obtain ⟨_, _, ⟨T502, LC502, kC502, nC502⟩, -, X502, ⟨Lc502, hQ502, lq502, yq502, zq502⟩, st502⟩ := X500.specialBack hx (y := oM0) rfl hown (mvT hZ (own_hw hw 28)) (mvT hZ (own_hw hw 29)) (mvT hZ (own_hw hw 30)) (by decide) (backOf (W := 1) (rsc_2 l Z a0 hw [] b495 b498 k498 zc u12 u13 h500 n0 (by omega) c503 c504 c505 v501 c506 (by assumption) hl_u12 hl_u13 (by omega) (own_ne (by omega))) hZ (own_hw hw 30) (own_hw hw 2) (by decide) (by decide)) (g := (mkF m 280 #[oi p0, oi p1, oi p2, oi p3, oi n4, oi u5, oi u6, oi u7, oi u8, oR a1_1, oR a1_2, oR b4, oi u12, oi u13, oi u14, oi 2, oR b480, .unset, .unset, .unset, .unset, .unset] [(.ref b498), (.ref b495), (.ref b495)])) rfl hml.symm (Steps.refl _) (a := b495) (argsL := [(.ref b498)]) (rest := [(.ref b495)]) (lenOf pd_20 rfl) rfl (Nat.le_of_eq rfl) (hb hby at_280) (fun _ _ => ⟨rfl, e500, (by decide : 12 + 1 ≤ _), (by decide : 32 + 2 ≤ _)⟩)
   dsimp only [Pt.U, Pt.locs, Pt.cells, Pt.slots] at X502 lq502 yq502 zq502 st502 hQ502
   subst lq502 yq502 zq502
   obtain ⟨h502, e502⟩ : ∃ z, T502.heap = z := ⟨_, rfl⟩
   rw [e502] at hQ502
   obtain ⟨r_502, kr_502, rfl, Nq502, K502, g502_0, g502_1, g502_2, g502_3, g502_4⟩ := hQ502
   have sz502 : h500.size ≤ h502.size := K502.1
   have N502 := Fr.app N500 Nq502
   have lt502_1 : @LT.lt Nat _ b495 h502.size := g502_0.lt
   have lt502_2 : @LT.lt Nat _ r_502 h502.size := g502_3.lt
   refine ow (oT T502 m 283 #[oi p0, oi p1, oi p2, oi p3, oi n4, oi u5, oi u6, oi u7, oi u8, oR a1_1, oR a1_2, oR b4, oi u12, oi u13, oi u14, oi 2, oR b480, .unset, .unset, .unset, .unset, .unset] [(.ref b495)]) (fun _ k => st502.trans k) ?_
   refine ow (oT T502 m 285 #[oi p0, oi p1, oi p2, oi p3, oi n4, oi u5, oi u6, oi u7, oi u8, oR a1_1, oR a1_2, oR b4, oi u12, oi u13, oi u14, oi 2, oR b480, oR b495, .unset, .unset, .unset, .unset] []) (fun _ k => XS.astore X502.here hx rfl (hb hby at_283) rfl rfl (l' := #[oi p0, oi p1, oi p2, oi p3, oi n4, oi u5, oi u6, oi u7, oi u8, oR a1_1, oR a1_2, oR b4, oi u12, oi u13, oi u14, oi 2, oR b480, oR b495, .unset, .unset, .unset, .unset]) rfl k) ?_
   refine ow (oT T502 m 315 #[oi p0, oi p1, oi p2, oi p3, oi n4, oi u5, oi u6, oi u7, oi u8, oR a1_1, oR a1_2, oR b4, oi u12, oi u13, oi u14, oi 2, oR b480, oR b495, .unset, .unset, .unset, .unset] []) (fun _ k => XS.goto X502.here hx rfl (pc0 := 285) (pc' := 315) rfl (hb hby at_285) (by decide) (by decide) k) ?_
   have KA507 : Keep h11 h502 [] := (((((((((((Keep.refl h11 []).ext E480).ext E483).wr W484 (Or.inr (by omega))).wr W485 (Or.inr (by omega))).trans K487 (allS (P := fun x => x ∈ [] ∨ h11.size ≤ x) (Or.inr (by omega)) all0)).ext E495).ext E498).wr W499 (Or.inr (by omega))).wr W500 (Or.inr (by omega))).trans K502 (allS (P := fun x => x ∈ [] ∨ h11.size ≤ x) (Or.inr (by omega)) all0))
   have AS507 := CHr.keep (EL := own_EL) KA507 all0 AA17.1
   have AA508 := AA17.trans AS507
   have c509 : Sta Z h502 oS0 oS4 "Z" (.int zc) := (own_sta_keep c506 K502 (allS (P := fun x => ∀ c : Cell, h500[x]? = some c → c.vm.isStatics = false) (own_pl_exa c503) all0))
   have c510 : Sta Z h502 oS1 oS10 oS3 (.ref de) := (own_sta_keep (((((own_sta_keep (((((own_sta_keep (((((own_sta_keep (own_sta_keep pr2 K1 all0) K2 all0).ext E4).ext E7).wr W8).wr W9) K11 (allS (P := fun x => ∀ c : Cell, h9[x]? = some c → c.vm.isStatics = false) (own_pl_exa c12) all0)).ext E480).ext E483).wr W484).wr W485) K487 (allS (P := fun x => ∀ c : Cell, h485[x]? = some c → c.vm.isStatics = false) (own_pl_exa c488) all0)).ext E495).ext E498).wr W499).wr W500) K502 (allS (P := fun x => ∀ c : Cell, h500[x]? = some c → c.vm.isStatics = false) (own_pl_exa c503) all0))
   have c511 : Arv Z h502 de kde (.object oS2) (0 : Int32) [] .null := (((((((((((((((((pr3.keep K1 nin0).keep K2 nin0).ext E4).ext E7).other W8 (own_ne (by omega))).other W9 (own_ne (by omega))).keep K11 (ninS (own_ne (by omega)) nin0)).ext E480).ext E483).other W484 (own_ne (by omega))).other W485 (own_ne (by omega))).keep K487 (ninS (own_ne (by omega)) nin0)).ext E495).ext E498).other W499 (own_ne (by omega))).other W500 (own_ne (by omega))).keep K502 (ninS (own_ne (by omega)) nin0))
   have c512 : Sta Z h502 oS7 "EMPTY" oS5 (.ref em) := (own_sta_keep (((((own_sta_keep (((((own_sta_keep (((((own_sta_keep (own_sta_keep pr4 K1 all0) K2 all0).ext E4).ext E7).wr W8).wr W9) K11 (allS (P := fun x => ∀ c : Cell, h9[x]? = some c → c.vm.isStatics = false) (own_pl_exa c12) all0)).ext E480).ext E483).wr W484).wr W485) K487 (allS (P := fun x => ∀ c : Cell, h485[x]? = some c → c.vm.isStatics = false) (own_pl_exa c488) all0)).ext E495).ext E498).wr W499).wr W500) K502 (allS (P := fun x => ∀ c : Cell, h500[x]? = some c → c.vm.isStatics = false) (own_pl_exa c503) all0))
   have c513 : Exa Z h502 a1_1 oS0 := ((((((((((((((((g1_0.keep K2).ext E4).ext E7).wr W8).wr W9).keep K11).ext E480).ext E483).wr W484).wr W485).keep K487).ext E495).ext E498).wr W499).wr W500).keep K502)
   have c514 : Fld Z h502 a1_1 oS0 "value" "[B" (.ref r_1) := ((((((((((((((((g1_1.keep K2 nin0).ext E4).ext E7).other W8 (Or.inl (own_ne (by omega)))).other W9 (Or.inl (own_ne (by omega)))).keep K11 (ninS (own_ne (by omega)) nin0)).ext E480).ext E483).other W484 (Or.inl (own_ne (by omega)))).other W485 (Or.inl (own_ne (by omega)))).keep K487 (ninS (own_ne (by omega)) nin0)).ext E495).ext E498).other W499 (Or.inl (own_ne (by omega)))).other W500 (Or.inl (own_ne (by omega)))).keep K502 (ninS (own_ne (by omega)) nin0))
   have c515 : Fld Z h502 a1_1 oS0 "coder" "B" (.int (0 : Int32)) := ((((((((((((((((g1_2.keep K2 nin0).ext E4).ext E7).other W8 (Or.inl (own_ne (by omega)))).other W9 (Or.inl (own_ne (by omega)))).keep K11 (ninS (own_ne (by omega)) nin0)).ext E480).ext E483).other W484 (Or.inl (own_ne (by omega)))).other W485 (Or.inl (own_ne (by omega)))).keep K487 (ninS (own_ne (by omega)) nin0)).ext E495).ext E498).other W499 (Or.inl (own_ne (by omega)))).other W500 (Or.inl (own_ne (by omega)))).keep K502 (ninS (own_ne (by omega)) nin0))
   have c516 : Arv Z h502 r_1 kr_1 .byte (1 : Int32) [(.int (own_by u5))] (.int (0 : Int32)) := ((((((((((((((((g1_3.keep K2 nin0).ext E4).ext E7).other W8 (own_ne (by omega))).other W9 (own_ne (by omega))).keep K11 (ninS (own_ne (by omega)) nin0)).ext E480).ext E483).other W484 (own_ne (by omega))).other W485 (own_ne (by omega))).keep K487 (ninS (own_ne (by omega)) nin0)).ext E495).ext E498).other W499 (own_ne (by omega))).other W500 (own_ne (by omega))).keep K502 (ninS (own_ne (by omega)) nin0))
   have c517 : Exa Z h502 a1_2 oS0 := (((((((((((((((g2_0.ext E4).ext E7).wr W8).wr W9).keep K11).ext E480).ext E483).wr W484).wr W485).keep K487).ext E495).ext E498).wr W499).wr W500).keep K502)
   have c518 : Fld Z h502 a1_2 oS0 "value" "[B" (.ref r_2) := (((((((((((((((g2_1.ext E4).ext E7).other W8 (Or.inl (own_ne (by omega)))).other W9 (Or.inl (own_ne (by omega)))).keep K11 (ninS (own_ne (by omega)) nin0)).ext E480).ext E483).other W484 (Or.inl (own_ne (by omega)))).other W485 (Or.inl (own_ne (by omega)))).keep K487 (ninS (own_ne (by omega)) nin0)).ext E495).ext E498).other W499 (Or.inl (own_ne (by omega)))).other W500 (Or.inl (own_ne (by omega)))).keep K502 (ninS (own_ne (by omega)) nin0))
   have c519 : Fld Z h502 a1_2 oS0 "coder" "B" (.int (0 : Int32)) := (((((((((((((((g2_2.ext E4).ext E7).other W8 (Or.inl (own_ne (by omega)))).other W9 (Or.inl (own_ne (by omega)))).keep K11 (ninS (own_ne (by omega)) nin0)).ext E480).ext E483).other W484 (Or.inl (own_ne (by omega)))).other W485 (Or.inl (own_ne (by omega)))).keep K487 (ninS (own_ne (by omega)) nin0)).ext E495).ext E498).other W499 (Or.inl (own_ne (by omega)))).other W500 (Or.inl (own_ne (by omega)))).keep K502 (ninS (own_ne (by omega)) nin0))
   have c520 : Arv Z h502 r_2 kr_2 .byte (1 : Int32) [(.int (own_by u6))] (.int (0 : Int32)) := (((((((((((((((g2_3.ext E4).ext E7).other W8 (own_ne (by omega))).other W9 (own_ne (by omega))).keep K11 (ninS (own_ne (by omega)) nin0)).ext E480).ext E483).other W484 (own_ne (by omega))).other W485 (own_ne (by omega))).keep K487 (ninS (own_ne (by omega)) nin0)).ext E495).ext E498).other W499 (own_ne (by omega))).other W500 (own_ne (by omega))).keep K502 (ninS (own_ne (by omega)) nin0))
   have c521 : Exa Z h502 b4 oS0 := ((((((((((g11_0.ext E480).ext E483).wr W484).wr W485).keep K487).ext E495).ext E498).wr W499).wr W500).keep K502)
   have c522 : Fld Z h502 b4 oS0 "value" "[B" (.ref r_11) := ((((((((((g11_1.ext E480).ext E483).other W484 (Or.inl (own_ne (by omega)))).other W485 (Or.inl (own_ne (by omega)))).keep K487 (ninS (own_ne (by omega)) nin0)).ext E495).ext E498).other W499 (Or.inl (own_ne (by omega)))).other W500 (Or.inl (own_ne (by omega)))).keep K502 (ninS (own_ne (by omega)) nin0))
   have c523 : Fld Z h502 b4 oS0 "coder" "B" (.int (0 : Int32)) := ((((((((((g11_2.ext E480).ext E483).other W484 (Or.inl (own_ne (by omega)))).other W485 (Or.inl (own_ne (by omega)))).keep K487 (ninS (own_ne (by omega)) nin0)).ext E495).ext E498).other W499 (Or.inl (own_ne (by omega)))).other W500 (Or.inl (own_ne (by omega)))).keep K502 (ninS (own_ne (by omega)) nin0))
   have c524 : Arv Z h502 r_11 kr_11 .byte (2 : Int32) [(.int (own_by u7)), (.int (own_by u8))] (.int (0 : Int32)) := ((((((((((g11_3.ext E480).ext E483).other W484 (own_ne (by omega))).other W485 (own_ne (by omega))).keep K487 (ninS (own_ne (by omega)) nin0)).ext E495).ext E498).other W499 (own_ne (by omega))).other W500 (own_ne (by omega))).keep K502 (ninS (own_ne (by omega)) nin0))
   have c525 : Exa Z h502 b480 oS0 := (((((g487_0.ext E495).ext E498).wr W499).wr W500).keep K502)
   have c526 : Fld Z h502 b480 oS0 "value" "[B" (.ref r_487) := (((((g487_1.ext E495).ext E498).other W499 (Or.inl (own_ne (by omega)))).other W500 (Or.inl (own_ne (by omega)))).keep K502 (ninS (own_ne (by omega)) nin0))
   have c527 : Fld Z h502 b480 oS0 "coder" "B" (.int (0 : Int32)) := (((((g487_2.ext E495).ext E498).other W499 (Or.inl (own_ne (by omega)))).other W500 (Or.inl (own_ne (by omega)))).keep K502 (ninS (own_ne (by omega)) nin0))
   have c528 : Arv Z h502 r_487 kr_487 .byte (2 : Int32) [(.int (own_by u12)), (.int (own_by u13))] (.int (0 : Int32)) := (((((g487_3.ext E495).ext E498).other W499 (own_ne (by omega))).other W500 (own_ne (by omega))).keep K502 (ninS (own_ne (by omega)) nin0))
   exact J315_18 _ _ _ b480 b495 r_487 r_502 kr_487 kr_502 _ _ (own_widen X502 (by decide) (by decide)) e502 N502 hS0 (by omega) hZ hown AA508 (show @Ne Nat b480 b495 by omega) (by omega) c509 c510 c511 c512 c513 c514 c515 c516 c517 c518 c519 c520 c521 c522 c523 c524 c525 c526 c527 c528 g502_0 g502_1 g502_2 g502_3
  ·
   refine ow (oT T11 m 119 #[oi p0, oi p1, oi p2, oi p3, oi n4, oi u5, oi u6, oi u7, oi u8, oR a1_1, oR a1_2, oR b4, oi u12, oi u13, oi u14, oi 3, .unset, .unset, .unset, .unset, .unset, .unset] [(.int (3 : Int32))]) (fun _ k => XS.iload X11.here hx rfl (hb hby at_117) rfl k) ?_
   have hc529 : ¬ ((3 : Int32) = (0 : Int32)) := by decide
   refine ow (oT T11 m 137 #[oi p0, oi p1, oi p2, oi p3, oi n4, oi u5, oi u6, oi u7, oi u8, oR a1_1, oR a1_2, oR b4, oi u12, oi u13, oi u14, oi 3, .unset, .unset, .unset, .unset, .unset, .unset] []) (fun _ k => XS.ifYes X11.here hx rfl (pc0 := 119) (pc' := 137) rfl (hb hby at_119) rfl ((if0 _ _).trans (feq hc529).2) (by decide) (by decide) k) ?_
   refine ow (oT T11 m 139 #[oi p0, oi p1, oi p2, oi p3, oi n4, oi u5, oi u6, oi u7, oi u8, oR a1_1, oR a1_2, oR b4, oi u12, oi u13, oi u14, oi 3, .unset, .unset, .unset, .unset, .unset, .unset] [(.int (3 : Int32))]) (fun _ k => XS.iload X11.here hx rfl (hb hby at_137) rfl k) ?_
   refine ow (oT T11 m 140 #[oi p0, oi p1, oi p2, oi p3, oi n4, oi u5, oi u6, oi u7, oi u8, oR a1_1, oR a1_2, oR b4, oi u12, oi u13, oi u14, oi 3, .unset, .unset, .unset, .unset, .unset, .unset] [(.int (1 : Int32)), (.int (3 : Int32))]) (fun _ k => XS.iconst X11.here hx rfl (hb hby at_139) k) ?_
   have hc530 : ¬ ((3 : Int32) = (1 : Int32)) := by decide
   refine ow (oT T11 m 153 #[oi p0, oi p1, oi p2, oi p3, oi n4, oi u5, oi u6, oi u7, oi u8, oR a1_1, oR a1_2, oR b4, oi u12, oi u13, oi u14, oi 3, .unset, .unset, .unset, .unset, .unset, .unset] []) (fun _ k => XS.icmpYes X11.here hx rfl (pc0 := 140) (pc' := 153) rfl (hb hby at_140) rfl (feq hc530).2 (by decide) (by decide) k) ?_
   refine ow (oT T11 m 155 #[oi p0, oi p1, oi p2, oi p3, oi n4, oi u5, oi u6, oi u7, oi u8, oR a1_1, oR a1_2, oR b4, oi u12, oi u13, oi u14, oi 3, .unset, .unset, .unset, .unset, .unset, .unset] [(.int (3 : Int32))]) (fun _ k => XS.iload X11.here hx rfl (hb hby at_153) rfl k) ?_
   refine ow (oT T11 m 156 #[oi p0, oi p1, oi p2, oi p3, oi n4, oi u5, oi u6, oi u7, oi u8, oR a1_1, oR a1_2, oR b4, oi u12, oi u13, oi u14, oi 3, .unset, .unset, .unset, .unset, .unset, .unset] [(.int (2 : Int32)), (.int (3 : Int32))]) (fun _ k => XS.iconst X11.here hx rfl (hb hby at_155) k) ?_
   have hc531 : ¬ ((3 : Int32) = (2 : Int32)) := by decide
   refine ow (oT T11 m 184 #[oi p0, oi p1, oi p2, oi p3, oi n4, oi u5, oi u6, oi u7, oi u8, oR a1_1, oR a1_2, oR b4, oi u12, oi u13, oi u14, oi 3, .unset, .unset, .unset, .unset, .unset, .unset] []) (fun _ k => XS.icmpYes X11.here hx rfl (pc0 := 156) (pc' := 184) rfl (hb hby at_156) rfl (feq hc531).2 (by decide) (by decide) k) ?_
   obtain ⟨T532, h532, X532, e532, E532, A532, D532, -, st532⟩ := newO X11 hx hZ hown (own_hw hw 26) (own_hw hw 10) (own_hw hw 2) e11 (g := (mkF m 184 #[oi p0, oi p1, oi p2, oi p3, oi n4, oi u5, oi u6, oi u7, oi u8, oR a1_1, oR a1_2, oR b4, oi u12, oi u13, oi u14, oi 3, .unset, .unset, .unset, .unset, .unset, .unset] [])) rfl (hb hby at_184) (by decide) (by decide)
   obtain ⟨b532, g532⟩ : ∃ z, z = h11.size := ⟨_, rfl⟩
   rw [← g532] at A532 D532 st532
   have sz532 : h11.size ≤ h532.size := E532.1
   have lt532 : @LT.lt Nat _ b532 h532.size := A532.lt
   have f533 : Fld Z h532 b532 oS0 "value" "[B" .null := D532 (Or.inr (own_hw hw 23)) (ty := (.array .byte)) (by decide)
   have f534 : Fld Z h532 b532 oS0 "coder" "B" (.int (0 : Int32)) := D532 (Or.inr (own_hw hw 25)) (ty := .byte) (by decide)
   refine ow (oT T532 m 187 #[oi p0, oi p1, oi p2, oi p3, oi n4, oi u5, oi u6, oi u7, oi u8, oR a1_1, oR a1_2, oR b4, oi u12, oi u13, oi u14, oi 3, .unset, .unset, .unset, .unset, .unset, .unset] [(.ref b532)]) (st532) ?_
   refine ow (oT T532 m 188 #[oi p0, oi p1, oi p2, oi p3, oi n4, oi u5, oi u6, oi u7, oi u8, oR a1_1, oR a1_2, oR b4, oi u12, oi u13, oi u14, oi 3, .unset, .unset, .unset, .unset, .unset, .unset] [(.ref b532), (.ref b532)]) (fun _ k => XS.dup X532.here hx rfl (hb hby at_187) rfl rfl k) ?_
   refine ow (oT T532 m 189 #[oi p0, oi p1, oi p2, oi p3, oi n4, oi u5, oi u6, oi u7, oi u8, oR a1_1, oR a1_2, oR b4, oi u12, oi u13, oi u14, oi 3, .unset, .unset, .unset, .unset, .unset, .unset] [(.int (3 : Int32)), (.ref b532), (.ref b532)]) (fun _ k => XS.iconst X532.here hx rfl (hb hby at_188) k) ?_
   obtain ⟨T535, h535, k535, X535, e535, E535, A535, st535⟩ := newP X532 hx hZ (own_hw hw 27) e532 (g := (mkF m 189 #[oi p0, oi p1, oi p2, oi p3, oi n4, oi u5, oi u6, oi u7, oi u8, oR a1_1, oR a1_2, oR b4, oi u12, oi u13, oi u14, oi 3, .unset, .unset, .unset, .unset, .unset, .unset] [(.int (3 : Int32)), (.ref b532), (.ref b532)])) rfl (hb hby at_189) rfl (by decide) (cap := 3) (by decide) (by decide) (by decide) (by decide)
   obtain ⟨b535, g535⟩ : ∃ z, z = h532.size := ⟨_, rfl⟩
   rw [← g535] at A535 st535
   have sz535 : h532.size ≤ h535.size := E535.1
   have lt535 : @LT.lt Nat _ b535 h535.size := A535.lt
   have v535 : Arv Z h535 b535 k535 .char (3 : Int32) [(.int (0 : Int32)), (.int (0 : Int32)), (.int (0 : Int32))] (.int (0 : Int32)) := (Arv.new A535 (by decide)).pad (pad_rep [] (.int (0 : Int32)) 3)
   refine ow (oT T535 m 191 #[oi p0, oi p1, oi p2, oi p3, oi n4, oi u5, oi u6, oi u7, oi u8, oR a1_1, oR a1_2, oR b4, oi u12, oi u13, oi u14, oi 3, .unset, .unset, .unset, .unset, .unset, .unset] [(.ref b535), (.ref b532), (.ref b532)]) (st535) ?_
   refine ow (oT T535 m 192 #[oi p0, oi p1, oi p2, oi p3, oi n4, oi u5, oi u6, oi u7, oi u8, oR a1_1, oR a1_2, oR b4, oi u12, oi u13, oi u14, oi 3, .unset, .unset, .unset, .unset, .unset, .unset] [(.ref b535), (.ref b535), (.ref b532), (.ref b532)]) (fun _ k => XS.dup X535.here hx rfl (hb hby at_191) rfl rfl k) ?_
   refine ow (oT T535 m 193 #[oi p0, oi p1, oi p2, oi p3, oi n4, oi u5, oi u6, oi u7, oi u8, oR a1_1, oR a1_2, oR b4, oi u12, oi u13, oi u14, oi 3, .unset, .unset, .unset, .unset, .unset, .unset] [(.int (0 : Int32)), (.ref b535), (.ref b535), (.ref b532), (.ref b532)]) (fun _ k => XS.iconst X535.here hx rfl (hb hby at_192) k) ?_
   refine ow (oT T535 m 195 #[oi p0, oi p1, oi p2, oi p3, oi n4, oi u5, oi u6, oi u7, oi u8, oR a1_1, oR a1_2, oR b4, oi u12, oi u13, oi u14, oi 3, .unset, .unset, .unset, .unset, .unset, .unset] [(.int u12), (.int (0 : Int32)), (.ref b535), (.ref b535), (.ref b532), (.ref b532)]) (fun _ k => XS.iload X535.here hx rfl (hb hby at_193) rfl k) ?_
   obtain ⟨cl536, Ar536, qc536, S536, M536, H536, G536⟩ := id v535
   have hin536 : ¬ ((0 : Int32) < 0 ∨ cl536.slots.size ≤ ((0 : Int32)).toNatClampNeg) := (inb_of S536 ⟨by decide, by decide⟩)
   obtain ⟨T536, h536, X536, e536, W536, st536⟩ := stC X535 hx hZ e535 Ar536 (j := (0 : Int32)) hin536 (g := (mkF m 195 #[oi p0, oi p1, oi p2, oi p3, oi n4, oi u5, oi u6, oi u7, oi u8, oR a1_1, oR a1_2, oR b4, oi u12, oi u13, oi u14, oi 3, .unset, .unset, .unset, .unset, .unset, .unset] [(.int u12), (.int (0 : Int32)), (.ref b535), (.ref b535), (.ref b532), (.ref b532)])) rfl rfl (hb hby at_195)
   have sz536 : h536.size = h535.size := W536.size
   have N536 := Fr.snoc X536 N11 (by omega)
   have v536 : Arv Z h536 b535 k535 .char (3 : Int32) [(.int (nar .char u12)), (.int (0 : Int32)), (.int (0 : Int32))] (.int (0 : Int32)) := Arv.set Ar536 qc536 S536 M536 H536 G536 (fits_nar_char _) W536 0 rfl (Nat.le_of_ble_eq_true rfl)
   refine ow (oT T536 m 196 #[oi p0, oi p1, oi p2, oi p3, oi n4, oi u5, oi u6, oi u7, oi u8, oR a1_1, oR a1_2, oR b4, oi u12, oi u13, oi u14, oi 3, .unset, .unset, .unset, .unset, .unset, .unset] [(.ref b535), (.ref b532), (.ref b532)]) (st536) ?_
   refine ow (oT T536 m 197 #[oi p0, oi p1, oi p2, oi p3, oi n4, oi u5, oi u6, oi u7, oi u8, oR a1_1, oR a1_2, oR b4, oi u12, oi u13, oi u14, oi 3, .unset, .unset, .unset, .unset, .unset, .unset] [(.ref b535), (.ref b535), (.ref b532), (.ref b532)]) (fun _ k => XS.dup X536.here hx rfl (hb hby at_196) rfl rfl k) ?_
   refine ow (oT T536 m 198 #[oi p0, oi p1, oi p2, oi p3, oi n4, oi u5, oi u6, oi u7, oi u8, oR a1_1, oR a1_2, oR b4, oi u12, oi u13, oi u14, oi 3, .unset, .unset, .unset, .unset, .unset, .unset] [(.int (1 : Int32)), (.ref b535), (.ref b535), (.ref b532), (.ref b532)]) (fun _ k => XS.iconst X536.here hx rfl (hb hby at_197) k) ?_
   refine ow (oT T536 m 200 #[oi p0, oi p1, oi p2, oi p3, oi n4, oi u5, oi u6, oi u7, oi u8, oR a1_1, oR a1_2, oR b4, oi u12, oi u13, oi u14, oi 3, .unset, .unset, .unset, .unset, .unset, .unset] [(.int u13), (.int (1 : Int32)), (.ref b535), (.ref b535), (.ref b532), (.ref b532)]) (fun _ k => XS.iload X536.here hx rfl (hb hby at_198) rfl k) ?_
   obtain ⟨cl537, Ar537, qc537, S537, M537, H537, G537⟩ := id v536
   have hin537 : ¬ ((1 : Int32) < 0 ∨ cl537.slots.size ≤ ((1 : Int32)).toNatClampNeg) := (inb_of S537 ⟨by decide, by decide⟩)
   obtain ⟨T537, h537, X537, e537, W537, st537⟩ := stC X536 hx hZ e536 Ar537 (j := (1 : Int32)) hin537 (g := (mkF m 200 #[oi p0, oi p1, oi p2, oi p3, oi n4, oi u5, oi u6, oi u7, oi u8, oR a1_1, oR a1_2, oR b4, oi u12, oi u13, oi u14, oi 3, .unset, .unset, .unset, .unset, .unset, .unset] [(.int u13), (.int (1 : Int32)), (.ref b535), (.ref b535), (.ref b532), (.ref b532)])) rfl rfl (hb hby at_200)
   have sz537 : h537.size = h536.size := W537.size
   have N537 := Fr.snoc X537 N536 (by omega)
   have v537 : Arv Z h537 b535 k535 .char (3 : Int32) [(.int (nar .char u12)), (.int (nar .char u13)), (.int (0 : Int32))] (.int (0 : Int32)) := Arv.set Ar537 qc537 S537 M537 H537 G537 (fits_nar_char _) W537 1 rfl (Nat.le_of_ble_eq_true rfl)
   refine ow (oT T537 m 201 #[oi p0, oi p1, oi p2, oi p3, oi n4, oi u5, oi u6, oi u7, oi u8, oR a1_1, oR a1_2, oR b4, oi u12, oi u13, oi u14, oi 3, .unset, .unset, .unset, .unset, .unset, .unset] [(.ref b535), (.ref b532), (.ref b532)]) (st537) ?_
   refine ow (oT T537 m 202 #[oi p0, oi p1, oi p2, oi p3, oi n4, oi u5, oi u6, oi u7, oi u8, oR a1_1, oR a1_2, oR b4, oi u12, oi u13, oi u14, oi 3, .unset, .unset, .unset, .unset, .unset, .unset] [(.ref b535), (.ref b535), (.ref b532), (.ref b532)]) (fun _ k => XS.dup X537.here hx rfl (hb hby at_201) rfl rfl k) ?_
   refine ow (oT T537 m 203 #[oi p0, oi p1, oi p2, oi p3, oi n4, oi u5, oi u6, oi u7, oi u8, oR a1_1, oR a1_2, oR b4, oi u12, oi u13, oi u14, oi 3, .unset, .unset, .unset, .unset, .unset, .unset] [(.int (2 : Int32)), (.ref b535), (.ref b535), (.ref b532), (.ref b532)]) (fun _ k => XS.iconst X537.here hx rfl (hb hby at_202) k) ?_
   refine ow (oT T537 m 205 #[oi p0, oi p1, oi p2, oi p3, oi n4, oi u5, oi u6, oi u7, oi u8, oR a1_1, oR a1_2, oR b4, oi u12, oi u13, oi u14, oi 3, .unset, .unset, .unset, .unset, .unset, .unset] [(.int u14), (.int (2 : Int32)), (.ref b535), (.ref b535), (.ref b532), (.ref b532)]) (fun _ k => XS.iload X537.here hx rfl (hb hby at_203) rfl k) ?_
   obtain ⟨cl538, Ar538, qc538, S538, M538, H538, G538⟩ := id v537
   have hin538 : ¬ ((2 : Int32) < 0 ∨ cl538.slots.size ≤ ((2 : Int32)).toNatClampNeg) := (inb_of S538 ⟨by decide, by decide⟩)
   obtain ⟨T538, h538, X538, e538, W538, st538⟩ := stC X537 hx hZ e537 Ar538 (j := (2 : Int32)) hin538 (g := (mkF m 205 #[oi p0, oi p1, oi p2, oi p3, oi n4, oi u5, oi u6, oi u7, oi u8, oR a1_1, oR a1_2, oR b4, oi u12, oi u13, oi u14, oi 3, .unset, .unset, .unset, .unset, .unset, .unset] [(.int u14), (.int (2 : Int32)), (.ref b535), (.ref b535), (.ref b532), (.ref b532)])) rfl rfl (hb hby at_205)
   have sz538 : h538.size = h537.size := W538.size
   have N538 := Fr.snoc X538 N537 (by omega)
   have v538 : Arv Z h538 b535 k535 .char (3 : Int32) [(.int (nar .char u12)), (.int (nar .char u13)), (.int (nar .char u14))] (.int (0 : Int32)) := Arv.set Ar538 qc538 S538 M538 H538 G538 (fits_nar_char _) W538 2 rfl (Nat.le_of_ble_eq_true rfl)
   refine ow (oT T538 m 206 #[oi p0, oi p1, oi p2, oi p3, oi n4, oi u5, oi u6, oi u7, oi u8, oR a1_1, oR a1_2, oR b4, oi u12, oi u13, oi u14, oi 3, .unset, .unset, .unset, .unset, .unset, .unset] [(.ref b535), (.ref b532), (.ref b532)]) (st538) ?_
   have v539 : Arv Z h538 b535 k535 .char (3 : Int32) [(.int u12), (.int u13), (.int u14)] (.int (0 : Int32)) := by have q_ := v538; rw [own_lat_ch hl_u12, own_lat_ch hl_u13, own_lat_ch hl_u14] at q_; exact q_
   have c541 : Exa Z h538 b532 oS0 := ((((A532.ext E535).wr W536).wr W537).wr W538)
   have c542 : Fld Z h538 b532 oS0 "value" "[B" .null := ((((f533.ext E535).other W536 (Or.inl (own_ne (by omega)))).other W537 (Or.inl (own_ne (by omega)))).other W538 (Or.inl (own_ne (by omega))))
   have c543 : Fld Z h538 b532 oS0 "coder" "B" (.int (0 : Int32)) := ((((f534.ext E535).other W536 (Or.inl (own_ne (by omega)))).other W537 (Or.inl (own_ne (by omega)))).other W538 (Or.inl (own_ne (by omega))))
   have c544 : Sta Z h538 oS0 oS4 "Z" (.int zc) := ((((((own_sta_keep c15 K11 (allS (P := fun x => ∀ c : Cell, h9[x]? = some c → c.vm.isStatics = false) (own_pl_exa c12) all0)).ext E532).ext E535).wr W536).wr W537).wr W538)
   obtain ⟨_, _, ⟨T540, LC540, kC540, nC540⟩, -, X540, ⟨Lc540, hQ540, lq540, yq540, zq540⟩, st540⟩ := X538.specialBack hx (y := oM0) rfl hown (mvT hZ (own_hw hw 28)) (mvT hZ (own_hw hw 29)) (mvT hZ (own_hw hw 30)) (by decide) (backOf (W := 1) (rsc_3 l Z a0 hw [] b532 b535 k535 zc u12 u13 u14 h538 n0 (by omega) c541 c542 c543 v539 c544 (by assumption) hl_u12 hl_u13 hl_u14 (by omega) (own_ne (by omega))) hZ (own_hw hw 30) (own_hw hw 2) (by decide) (by decide)) (g := (mkF m 206 #[oi p0, oi p1, oi p2, oi p3, oi n4, oi u5, oi u6, oi u7, oi u8, oR a1_1, oR a1_2, oR b4, oi u12, oi u13, oi u14, oi 3, .unset, .unset, .unset, .unset, .unset, .unset] [(.ref b535), (.ref b532), (.ref b532)])) rfl hml.symm (Steps.refl _) (a := b532) (argsL := [(.ref b535)]) (rest := [(.ref b532)]) (lenOf pd_20 rfl) rfl (Nat.le_of_eq rfl) (hb hby at_206) (fun _ _ => ⟨rfl, e538, (by decide : 9 + 1 ≤ _), (by decide : 25 + 3 ≤ _)⟩)
   dsimp only [Pt.U, Pt.locs, Pt.cells, Pt.slots] at X540 lq540 yq540 zq540 st540 hQ540
   subst lq540 yq540 zq540
   obtain ⟨h540, e540⟩ : ∃ z, T540.heap = z := ⟨_, rfl⟩
   rw [e540] at hQ540
   obtain ⟨r_540, kr_540, rfl, Nq540, K540, g540_0, g540_1, g540_2, g540_3, g540_4⟩ := hQ540
   have sz540 : h538.size ≤ h540.size := K540.1
   have N540 := Fr.app N538 Nq540
   have lt540_1 : @LT.lt Nat _ b532 h540.size := g540_0.lt
   have lt540_2 : @LT.lt Nat _ r_540 h540.size := g540_3.lt
   refine ow (oT T540 m 209 #[oi p0, oi p1, oi p2, oi p3, oi n4, oi u5, oi u6, oi u7, oi u8, oR a1_1, oR a1_2, oR b4, oi u12, oi u13, oi u14, oi 3, .unset, .unset, .unset, .unset, .unset, .unset] [(.ref b532)]) (fun _ k => st540.trans k) ?_
   refine ow (oT T540 m 211 #[oi p0, oi p1, oi p2, oi p3, oi n4, oi u5, oi u6, oi u7, oi u8, oR a1_1, oR a1_2, oR b4, oi u12, oi u13, oi u14, oi 3, oR b532, .unset, .unset, .unset, .unset, .unset] []) (fun _ k => XS.astore X540.here hx rfl (hb hby at_209) rfl rfl (l' := #[oi p0, oi p1, oi p2, oi p3, oi n4, oi u5, oi u6, oi u7, oi u8, oR a1_1, oR a1_2, oR b4, oi u12, oi u13, oi u14, oi 3, oR b532, .unset, .unset, .unset, .unset, .unset]) rfl k) ?_
   refine ow (oT T540 m 213 #[oi p0, oi p1, oi p2, oi p3, oi n4, oi u5, oi u6, oi u7, oi u8, oR a1_1, oR a1_2, oR b4, oi u12, oi u13, oi u14, oi 3, oR b532, .unset, .unset, .unset, .unset, .unset] [(.int (3 : Int32))]) (fun _ k => XS.iload X540.here hx rfl (hb hby at_211) rfl k) ?_
   have hc545 : ¬ ((3 : Int32) = (0 : Int32)) := by decide
   refine ow (oT T540 m 231 #[oi p0, oi p1, oi p2, oi p3, oi n4, oi u5, oi u6, oi u7, oi u8, oR a1_1, oR a1_2, oR b4, oi u12, oi u13, oi u14, oi 3, oR b532, .unset, .unset, .unset, .unset, .unset] []) (fun _ k => XS.ifYes X540.here hx rfl (pc0 := 213) (pc' := 231) rfl (hb hby at_213) rfl ((if0 _ _).trans (feq hc545).2) (by decide) (by decide) k) ?_
   refine ow (oT T540 m 233 #[oi p0, oi p1, oi p2, oi p3, oi n4, oi u5, oi u6, oi u7, oi u8, oR a1_1, oR a1_2, oR b4, oi u12, oi u13, oi u14, oi 3, oR b532, .unset, .unset, .unset, .unset, .unset] [(.int (3 : Int32))]) (fun _ k => XS.iload X540.here hx rfl (hb hby at_231) rfl k) ?_
   refine ow (oT T540 m 234 #[oi p0, oi p1, oi p2, oi p3, oi n4, oi u5, oi u6, oi u7, oi u8, oR a1_1, oR a1_2, oR b4, oi u12, oi u13, oi u14, oi 3, oR b532, .unset, .unset, .unset, .unset, .unset] [(.int (1 : Int32)), (.int (3 : Int32))]) (fun _ k => XS.iconst X540.here hx rfl (hb hby at_233) k) ?_
   have hc546 : ¬ ((3 : Int32) = (1 : Int32)) := by decide
   refine ow (oT T540 m 257 #[oi p0, oi p1, oi p2, oi p3, oi n4, oi u5, oi u6, oi u7, oi u8, oR a1_1, oR a1_2, oR b4, oi u12, oi u13, oi u14, oi 3, oR b532, .unset, .unset, .unset, .unset, .unset] []) (fun _ k => XS.icmpYes X540.here hx rfl (pc0 := 234) (pc' := 257) rfl (hb hby at_234) rfl (feq hc546).2 (by decide) (by decide) k) ?_
   refine ow (oT T540 m 259 #[oi p0, oi p1, oi p2, oi p3, oi n4, oi u5, oi u6, oi u7, oi u8, oR a1_1, oR a1_2, oR b4, oi u12, oi u13, oi u14, oi 3, oR b532, .unset, .unset, .unset, .unset, .unset] [(.int (3 : Int32))]) (fun _ k => XS.iload X540.here hx rfl (hb hby at_257) rfl k) ?_
   refine ow (oT T540 m 260 #[oi p0, oi p1, oi p2, oi p3, oi n4, oi u5, oi u6, oi u7, oi u8, oR a1_1, oR a1_2, oR b4, oi u12, oi u13, oi u14, oi 3, oR b532, .unset, .unset, .unset, .unset, .unset] [(.int (2 : Int32)), (.int (3 : Int32))]) (fun _ k => XS.iconst X540.here hx rfl (hb hby at_259) k) ?_
   have hc547 : ¬ ((3 : Int32) = (2 : Int32)) := by decide
   refine ow (oT T540 m 288 #[oi p0, oi p1, oi p2, oi p3, oi n4, oi u5, oi u6, oi u7, oi u8, oR a1_1, oR a1_2, oR b4, oi u12, oi u13, oi u14, oi 3, oR b532, .unset, .unset, .unset, .unset, .unset] []) (fun _ k => XS.icmpYes X540.here hx rfl (pc0 := 260) (pc' := 288) rfl (hb hby at_260) rfl (feq hc547).2 (by decide) (by decide) k) ?_
   obtain ⟨T548, h548, X548, e548, E548, A548, D548, -, st548⟩ := newO X540 hx hZ hown (own_hw hw 26) (own_hw hw 10) (own_hw hw 2) e540 (g := (mkF m 288 #[oi p0, oi p1, oi p2, oi p3, oi n4, oi u5, oi u6, oi u7, oi u8, oR a1_1, oR a1_2, oR b4, oi u12, oi u13, oi u14, oi 3, oR b532, .unset, .unset, .unset, .unset, .unset] [])) rfl (hb hby at_288) (by decide) (by decide)
   obtain ⟨b548, g548⟩ : ∃ z, z = h540.size := ⟨_, rfl⟩
   rw [← g548] at A548 D548 st548
   have sz548 : h540.size ≤ h548.size := E548.1
   have lt548 : @LT.lt Nat _ b548 h548.size := A548.lt
   have f549 : Fld Z h548 b548 oS0 "value" "[B" .null := D548 (Or.inr (own_hw hw 23)) (ty := (.array .byte)) (by decide)
   have f550 : Fld Z h548 b548 oS0 "coder" "B" (.int (0 : Int32)) := D548 (Or.inr (own_hw hw 25)) (ty := .byte) (by decide)
   refine ow (oT T548 m 291 #[oi p0, oi p1, oi p2, oi p3, oi n4, oi u5, oi u6, oi u7, oi u8, oR a1_1, oR a1_2, oR b4, oi u12, oi u13, oi u14, oi 3, oR b532, .unset, .unset, .unset, .unset, .unset] [(.ref b548)]) (st548) ?_
   refine ow (oT T548 m 292 #[oi p0, oi p1, oi p2, oi p3, oi n4, oi u5, oi u6, oi u7, oi u8, oR a1_1, oR a1_2, oR b4, oi u12, oi u13, oi u14, oi 3, oR b532, .unset, .unset, .unset, .unset, .unset] [(.ref b548), (.ref b548)]) (fun _ k => XS.dup X548.here hx rfl (hb hby at_291) rfl rfl k) ?_
   refine ow (oT T548 m 293 #[oi p0, oi p1, oi p2, oi p3, oi n4, oi u5, oi u6, oi u7, oi u8, oR a1_1, oR a1_2, oR b4, oi u12, oi u13, oi u14, oi 3, oR b532, .unset, .unset, .unset, .unset, .unset] [(.int (3 : Int32)), (.ref b548), (.ref b548)]) (fun _ k => XS.iconst X548.here hx rfl (hb hby at_292) k) ?_
   obtain ⟨T551, h551, k551, X551, e551, E551, A551, st551⟩ := newP X548 hx hZ (own_hw hw 27) e548 (g := (mkF m 293 #[oi p0, oi p1, oi p2, oi p3, oi n4, oi u5, oi u6, oi u7, oi u8, oR a1_1, oR a1_2, oR b4, oi u12, oi u13, oi u14, oi 3, oR b532, .unset, .unset, .unset, .unset, .unset] [(.int (3 : Int32)), (.ref b548), (.ref b548)])) rfl (hb hby at_293) rfl (by decide) (cap := 3) (by decide) (by decide) (by decide) (by decide)
   obtain ⟨b551, g551⟩ : ∃ z, z = h548.size := ⟨_, rfl⟩
   rw [← g551] at A551 st551
   have sz551 : h548.size ≤ h551.size := E551.1
   have lt551 : @LT.lt Nat _ b551 h551.size := A551.lt
   have v551 : Arv Z h551 b551 k551 .char (3 : Int32) [(.int (0 : Int32)), (.int (0 : Int32)), (.int (0 : Int32))] (.int (0 : Int32)) := (Arv.new A551 (by decide)).pad (pad_rep [] (.int (0 : Int32)) 3)
   refine ow (oT T551 m 295 #[oi p0, oi p1, oi p2, oi p3, oi n4, oi u5, oi u6, oi u7, oi u8, oR a1_1, oR a1_2, oR b4, oi u12, oi u13, oi u14, oi 3, oR b532, .unset, .unset, .unset, .unset, .unset] [(.ref b551), (.ref b548), (.ref b548)]) (st551) ?_
   refine ow (oT T551 m 296 #[oi p0, oi p1, oi p2, oi p3, oi n4, oi u5, oi u6, oi u7, oi u8, oR a1_1, oR a1_2, oR b4, oi u12, oi u13, oi u14, oi 3, oR b532, .unset, .unset, .unset, .unset, .unset] [(.ref b551), (.ref b551), (.ref b548), (.ref b548)]) (fun _ k => XS.dup X551.here hx rfl (hb hby at_295) rfl rfl k) ?_
   refine ow (oT T551 m 297 #[oi p0, oi p1, oi p2, oi p3, oi n4, oi u5, oi u6, oi u7, oi u8, oR a1_1, oR a1_2, oR b4, oi u12, oi u13, oi u14, oi 3, oR b532, .unset, .unset, .unset, .unset, .unset] [(.int (0 : Int32)), (.ref b551), (.ref b551), (.ref b548), (.ref b548)]) (fun _ k => XS.iconst X551.here hx rfl (hb hby at_296) k) ?_
   refine ow (oT T551 m 299 #[oi p0, oi p1, oi p2, oi p3, oi n4, oi u5, oi u6, oi u7, oi u8, oR a1_1, oR a1_2, oR b4, oi u12, oi u13, oi u14, oi 3, oR b532, .unset, .unset, .unset, .unset, .unset] [(.int u12), (.int (0 : Int32)), (.ref b551), (.ref b551), (.ref b548), (.ref b548)]) (fun _ k => XS.iload X551.here hx rfl (hb hby at_297) rfl k) ?_
   obtain ⟨cl552, Ar552, qc552, S552, M552, H552, G552⟩ := id v551
   have hin552 : ¬ ((0 : Int32) < 0 ∨ cl552.slots.size ≤ ((0 : Int32)).toNatClampNeg) := (inb_of S552 ⟨by decide, by decide⟩)
   obtain ⟨T552, h552, X552, e552, W552, st552⟩ := stC X551 hx hZ e551 Ar552 (j := (0 : Int32)) hin552 (g := (mkF m 299 #[oi p0, oi p1, oi p2, oi p3, oi n4, oi u5, oi u6, oi u7, oi u8, oR a1_1, oR a1_2, oR b4, oi u12, oi u13, oi u14, oi 3, oR b532, .unset, .unset, .unset, .unset, .unset] [(.int u12), (.int (0 : Int32)), (.ref b551), (.ref b551), (.ref b548), (.ref b548)])) rfl rfl (hb hby at_299)
   have sz552 : h552.size = h551.size := W552.size
   have N552 := Fr.snoc X552 N540 (by omega)
   have v552 : Arv Z h552 b551 k551 .char (3 : Int32) [(.int (nar .char u12)), (.int (0 : Int32)), (.int (0 : Int32))] (.int (0 : Int32)) := Arv.set Ar552 qc552 S552 M552 H552 G552 (fits_nar_char _) W552 0 rfl (Nat.le_of_ble_eq_true rfl)
   refine ow (oT T552 m 300 #[oi p0, oi p1, oi p2, oi p3, oi n4, oi u5, oi u6, oi u7, oi u8, oR a1_1, oR a1_2, oR b4, oi u12, oi u13, oi u14, oi 3, oR b532, .unset, .unset, .unset, .unset, .unset] [(.ref b551), (.ref b548), (.ref b548)]) (st552) ?_
   refine ow (oT T552 m 301 #[oi p0, oi p1, oi p2, oi p3, oi n4, oi u5, oi u6, oi u7, oi u8, oR a1_1, oR a1_2, oR b4, oi u12, oi u13, oi u14, oi 3, oR b532, .unset, .unset, .unset, .unset, .unset] [(.ref b551), (.ref b551), (.ref b548), (.ref b548)]) (fun _ k => XS.dup X552.here hx rfl (hb hby at_300) rfl rfl k) ?_
   refine ow (oT T552 m 302 #[oi p0, oi p1, oi p2, oi p3, oi n4, oi u5, oi u6, oi u7, oi u8, oR a1_1, oR a1_2, oR b4, oi u12, oi u13, oi u14, oi 3, oR b532, .unset, .unset, .unset, .unset, .unset] [(.int (1 : Int32)), (.ref b551), (.ref b551), (.ref b548), (.ref b548)]) (fun _ k => XS.iconst X552.here hx rfl (hb hby at_301) k) ?_
   refine ow (oT T552 m 304 #[oi p0, oi p1, oi p2, oi p3, oi n4, oi u5, oi u6, oi u7, oi u8, oR a1_1, oR a1_2, oR b4, oi u12, oi u13, oi u14, oi 3, oR b532, .unset, .unset, .unset, .unset, .unset] [(.int u13), (.int (1 : Int32)), (.ref b551), (.ref b551), (.ref b548), (.ref b548)]) (fun _ k => XS.iload X552.here hx rfl (hb hby at_302) rfl k) ?_
   obtain ⟨cl553, Ar553, qc553, S553, M553, H553, G553⟩ := id v552
   have hin553 : ¬ ((1 : Int32) < 0 ∨ cl553.slots.size ≤ ((1 : Int32)).toNatClampNeg) := (inb_of S553 ⟨by decide, by decide⟩)
   obtain ⟨T553, h553, X553, e553, W553, st553⟩ := stC X552 hx hZ e552 Ar553 (j := (1 : Int32)) hin553 (g := (mkF m 304 #[oi p0, oi p1, oi p2, oi p3, oi n4, oi u5, oi u6, oi u7, oi u8, oR a1_1, oR a1_2, oR b4, oi u12, oi u13, oi u14, oi 3, oR b532, .unset, .unset, .unset, .unset, .unset] [(.int u13), (.int (1 : Int32)), (.ref b551), (.ref b551), (.ref b548), (.ref b548)])) rfl rfl (hb hby at_304)
   have sz553 : h553.size = h552.size := W553.size
   have N553 := Fr.snoc X553 N552 (by omega)
   have v553 : Arv Z h553 b551 k551 .char (3 : Int32) [(.int (nar .char u12)), (.int (nar .char u13)), (.int (0 : Int32))] (.int (0 : Int32)) := Arv.set Ar553 qc553 S553 M553 H553 G553 (fits_nar_char _) W553 1 rfl (Nat.le_of_ble_eq_true rfl)
   refine ow (oT T553 m 305 #[oi p0, oi p1, oi p2, oi p3, oi n4, oi u5, oi u6, oi u7, oi u8, oR a1_1, oR a1_2, oR b4, oi u12, oi u13, oi u14, oi 3, oR b532, .unset, .unset, .unset, .unset, .unset] [(.ref b551), (.ref b548), (.ref b548)]) (st553) ?_
   refine ow (oT T553 m 306 #[oi p0, oi p1, oi p2, oi p3, oi n4, oi u5, oi u6, oi u7, oi u8, oR a1_1, oR a1_2, oR b4, oi u12, oi u13, oi u14, oi 3, oR b532, .unset, .unset, .unset, .unset, .unset] [(.ref b551), (.ref b551), (.ref b548), (.ref b548)]) (fun _ k => XS.dup X553.here hx rfl (hb hby at_305) rfl rfl k) ?_
   refine ow (oT T553 m 307 #[oi p0, oi p1, oi p2, oi p3, oi n4, oi u5, oi u6, oi u7, oi u8, oR a1_1, oR a1_2, oR b4, oi u12, oi u13, oi u14, oi 3, oR b532, .unset, .unset, .unset, .unset, .unset] [(.int (2 : Int32)), (.ref b551), (.ref b551), (.ref b548), (.ref b548)]) (fun _ k => XS.iconst X553.here hx rfl (hb hby at_306) k) ?_
   refine ow (oT T553 m 309 #[oi p0, oi p1, oi p2, oi p3, oi n4, oi u5, oi u6, oi u7, oi u8, oR a1_1, oR a1_2, oR b4, oi u12, oi u13, oi u14, oi 3, oR b532, .unset, .unset, .unset, .unset, .unset] [(.int u14), (.int (2 : Int32)), (.ref b551), (.ref b551), (.ref b548), (.ref b548)]) (fun _ k => XS.iload X553.here hx rfl (hb hby at_307) rfl k) ?_
   obtain ⟨cl554, Ar554, qc554, S554, M554, H554, G554⟩ := id v553
   have hin554 : ¬ ((2 : Int32) < 0 ∨ cl554.slots.size ≤ ((2 : Int32)).toNatClampNeg) := (inb_of S554 ⟨by decide, by decide⟩)
   obtain ⟨T554, h554, X554, e554, W554, st554⟩ := stC X553 hx hZ e553 Ar554 (j := (2 : Int32)) hin554 (g := (mkF m 309 #[oi p0, oi p1, oi p2, oi p3, oi n4, oi u5, oi u6, oi u7, oi u8, oR a1_1, oR a1_2, oR b4, oi u12, oi u13, oi u14, oi 3, oR b532, .unset, .unset, .unset, .unset, .unset] [(.int u14), (.int (2 : Int32)), (.ref b551), (.ref b551), (.ref b548), (.ref b548)])) rfl rfl (hb hby at_309)
   have sz554 : h554.size = h553.size := W554.size
   have N554 := Fr.snoc X554 N553 (by omega)
   have v554 : Arv Z h554 b551 k551 .char (3 : Int32) [(.int (nar .char u12)), (.int (nar .char u13)), (.int (nar .char u14))] (.int (0 : Int32)) := Arv.set Ar554 qc554 S554 M554 H554 G554 (fits_nar_char _) W554 2 rfl (Nat.le_of_ble_eq_true rfl)
   refine ow (oT T554 m 310 #[oi p0, oi p1, oi p2, oi p3, oi n4, oi u5, oi u6, oi u7, oi u8, oR a1_1, oR a1_2, oR b4, oi u12, oi u13, oi u14, oi 3, oR b532, .unset, .unset, .unset, .unset, .unset] [(.ref b551), (.ref b548), (.ref b548)]) (st554) ?_
   have v555 : Arv Z h554 b551 k551 .char (3 : Int32) [(.int u12), (.int u13), (.int u14)] (.int (0 : Int32)) := by have q_ := v554; rw [own_lat_ch hl_u12, own_lat_ch hl_u13, own_lat_ch hl_u14] at q_; exact q_
   have c557 : Exa Z h554 b548 oS0 := ((((A548.ext E551).wr W552).wr W553).wr W554)
   have c558 : Fld Z h554 b548 oS0 "value" "[B" .null := ((((f549.ext E551).other W552 (Or.inl (own_ne (by omega)))).other W553 (Or.inl (own_ne (by omega)))).other W554 (Or.inl (own_ne (by omega))))
   have c559 : Fld Z h554 b548 oS0 "coder" "B" (.int (0 : Int32)) := ((((f550.ext E551).other W552 (Or.inl (own_ne (by omega)))).other W553 (Or.inl (own_ne (by omega)))).other W554 (Or.inl (own_ne (by omega))))
   have c560 : Sta Z h554 oS0 oS4 "Z" (.int zc) := ((((((own_sta_keep c544 K540 (allS (P := fun x => ∀ c : Cell, h538[x]? = some c → c.vm.isStatics = false) (own_pl_exa c541) all0)).ext E548).ext E551).wr W552).wr W553).wr W554)
   obtain ⟨_, _, ⟨T556, LC556, kC556, nC556⟩, -, X556, ⟨Lc556, hQ556, lq556, yq556, zq556⟩, st556⟩ := X554.specialBack hx (y := oM0) rfl hown (mvT hZ (own_hw hw 28)) (mvT hZ (own_hw hw 29)) (mvT hZ (own_hw hw 30)) (by decide) (backOf (W := 1) (rsc_3 l Z a0 hw [] b548 b551 k551 zc u12 u13 u14 h554 n0 (by omega) c557 c558 c559 v555 c560 (by assumption) hl_u12 hl_u13 hl_u14 (by omega) (own_ne (by omega))) hZ (own_hw hw 30) (own_hw hw 2) (by decide) (by decide)) (g := (mkF m 310 #[oi p0, oi p1, oi p2, oi p3, oi n4, oi u5, oi u6, oi u7, oi u8, oR a1_1, oR a1_2, oR b4, oi u12, oi u13, oi u14, oi 3, oR b532, .unset, .unset, .unset, .unset, .unset] [(.ref b551), (.ref b548), (.ref b548)])) rfl hml.symm (Steps.refl _) (a := b548) (argsL := [(.ref b551)]) (rest := [(.ref b548)]) (lenOf pd_20 rfl) rfl (Nat.le_of_eq rfl) (hb hby at_310) (fun _ _ => ⟨rfl, e554, (by decide : 12 + 1 ≤ _), (by decide : 35 + 3 ≤ _)⟩)
   dsimp only [Pt.U, Pt.locs, Pt.cells, Pt.slots] at X556 lq556 yq556 zq556 st556 hQ556
   subst lq556 yq556 zq556
   obtain ⟨h556, e556⟩ : ∃ z, T556.heap = z := ⟨_, rfl⟩
   rw [e556] at hQ556
   obtain ⟨r_556, kr_556, rfl, Nq556, K556, g556_0, g556_1, g556_2, g556_3, g556_4⟩ := hQ556
   have sz556 : h554.size ≤ h556.size := K556.1
   have N556 := Fr.app N554 Nq556
   have lt556_1 : @LT.lt Nat _ b548 h556.size := g556_0.lt
   have lt556_2 : @LT.lt Nat _ r_556 h556.size := g556_3.lt
   refine ow (oT T556 m 313 #[oi p0, oi p1, oi p2, oi p3, oi n4, oi u5, oi u6, oi u7, oi u8, oR a1_1, oR a1_2, oR b4, oi u12, oi u13, oi u14, oi 3, oR b532, .unset, .unset, .unset, .unset, .unset] [(.ref b548)]) (fun _ k => st556.trans k) ?_
   refine ow (oT T556 m 315 #[oi p0, oi p1, oi p2, oi p3, oi n4, oi u5, oi u6, oi u7, oi u8, oR a1_1, oR a1_2, oR b4, oi u12, oi u13, oi u14, oi 3, oR b532, oR b548, .unset, .unset, .unset, .unset] []) (fun _ k => XS.astore X556.here hx rfl (hb hby at_313) rfl rfl (l' := #[oi p0, oi p1, oi p2, oi p3, oi n4, oi u5, oi u6, oi u7, oi u8, oR a1_1, oR a1_2, oR b4, oi u12, oi u13, oi u14, oi 3, oR b532, oR b548, .unset, .unset, .unset, .unset]) rfl k) ?_
   have KA561 : Keep h11 h556 [] := (((((((((((((Keep.refl h11 []).ext E532).ext E535).wr W536 (Or.inr (by omega))).wr W537 (Or.inr (by omega))).wr W538 (Or.inr (by omega))).trans K540 (allS (P := fun x => x ∈ [] ∨ h11.size ≤ x) (Or.inr (by omega)) all0)).ext E548).ext E551).wr W552 (Or.inr (by omega))).wr W553 (Or.inr (by omega))).wr W554 (Or.inr (by omega))).trans K556 (allS (P := fun x => x ∈ [] ∨ h11.size ≤ x) (Or.inr (by omega)) all0))
   have AS561 := CHr.keep (EL := own_EL) KA561 all0 AA17.1
   have AA562 := AA17.trans AS561
   have c563 : Sta Z h556 oS0 oS4 "Z" (.int zc) := (own_sta_keep c560 K556 (allS (P := fun x => ∀ c : Cell, h554[x]? = some c → c.vm.isStatics = false) (own_pl_exa c557) all0))
   have c564 : Sta Z h556 oS1 oS10 oS3 (.ref de) := (own_sta_keep ((((((own_sta_keep ((((((own_sta_keep (((((own_sta_keep (own_sta_keep pr2 K1 all0) K2 all0).ext E4).ext E7).wr W8).wr W9) K11 (allS (P := fun x => ∀ c : Cell, h9[x]? = some c → c.vm.isStatics = false) (own_pl_exa c12) all0)).ext E532).ext E535).wr W536).wr W537).wr W538) K540 (allS (P := fun x => ∀ c : Cell, h538[x]? = some c → c.vm.isStatics = false) (own_pl_exa c541) all0)).ext E548).ext E551).wr W552).wr W553).wr W554) K556 (allS (P := fun x => ∀ c : Cell, h554[x]? = some c → c.vm.isStatics = false) (own_pl_exa c557) all0))
   have c565 : Arv Z h556 de kde (.object oS2) (0 : Int32) [] .null := (((((((((((((((((((pr3.keep K1 nin0).keep K2 nin0).ext E4).ext E7).other W8 (own_ne (by omega))).other W9 (own_ne (by omega))).keep K11 (ninS (own_ne (by omega)) nin0)).ext E532).ext E535).other W536 (own_ne (by omega))).other W537 (own_ne (by omega))).other W538 (own_ne (by omega))).keep K540 (ninS (own_ne (by omega)) nin0)).ext E548).ext E551).other W552 (own_ne (by omega))).other W553 (own_ne (by omega))).other W554 (own_ne (by omega))).keep K556 (ninS (own_ne (by omega)) nin0))
   have c566 : Sta Z h556 oS7 "EMPTY" oS5 (.ref em) := (own_sta_keep ((((((own_sta_keep ((((((own_sta_keep (((((own_sta_keep (own_sta_keep pr4 K1 all0) K2 all0).ext E4).ext E7).wr W8).wr W9) K11 (allS (P := fun x => ∀ c : Cell, h9[x]? = some c → c.vm.isStatics = false) (own_pl_exa c12) all0)).ext E532).ext E535).wr W536).wr W537).wr W538) K540 (allS (P := fun x => ∀ c : Cell, h538[x]? = some c → c.vm.isStatics = false) (own_pl_exa c541) all0)).ext E548).ext E551).wr W552).wr W553).wr W554) K556 (allS (P := fun x => ∀ c : Cell, h554[x]? = some c → c.vm.isStatics = false) (own_pl_exa c557) all0))
   have c567 : Exa Z h556 a1_1 oS0 := ((((((((((((((((((g1_0.keep K2).ext E4).ext E7).wr W8).wr W9).keep K11).ext E532).ext E535).wr W536).wr W537).wr W538).keep K540).ext E548).ext E551).wr W552).wr W553).wr W554).keep K556)
   have c568 : Fld Z h556 a1_1 oS0 "value" "[B" (.ref r_1) := ((((((((((((((((((g1_1.keep K2 nin0).ext E4).ext E7).other W8 (Or.inl (own_ne (by omega)))).other W9 (Or.inl (own_ne (by omega)))).keep K11 (ninS (own_ne (by omega)) nin0)).ext E532).ext E535).other W536 (Or.inl (own_ne (by omega)))).other W537 (Or.inl (own_ne (by omega)))).other W538 (Or.inl (own_ne (by omega)))).keep K540 (ninS (own_ne (by omega)) nin0)).ext E548).ext E551).other W552 (Or.inl (own_ne (by omega)))).other W553 (Or.inl (own_ne (by omega)))).other W554 (Or.inl (own_ne (by omega)))).keep K556 (ninS (own_ne (by omega)) nin0))
   have c569 : Fld Z h556 a1_1 oS0 "coder" "B" (.int (0 : Int32)) := ((((((((((((((((((g1_2.keep K2 nin0).ext E4).ext E7).other W8 (Or.inl (own_ne (by omega)))).other W9 (Or.inl (own_ne (by omega)))).keep K11 (ninS (own_ne (by omega)) nin0)).ext E532).ext E535).other W536 (Or.inl (own_ne (by omega)))).other W537 (Or.inl (own_ne (by omega)))).other W538 (Or.inl (own_ne (by omega)))).keep K540 (ninS (own_ne (by omega)) nin0)).ext E548).ext E551).other W552 (Or.inl (own_ne (by omega)))).other W553 (Or.inl (own_ne (by omega)))).other W554 (Or.inl (own_ne (by omega)))).keep K556 (ninS (own_ne (by omega)) nin0))
   have c570 : Arv Z h556 r_1 kr_1 .byte (1 : Int32) [(.int (own_by u5))] (.int (0 : Int32)) := ((((((((((((((((((g1_3.keep K2 nin0).ext E4).ext E7).other W8 (own_ne (by omega))).other W9 (own_ne (by omega))).keep K11 (ninS (own_ne (by omega)) nin0)).ext E532).ext E535).other W536 (own_ne (by omega))).other W537 (own_ne (by omega))).other W538 (own_ne (by omega))).keep K540 (ninS (own_ne (by omega)) nin0)).ext E548).ext E551).other W552 (own_ne (by omega))).other W553 (own_ne (by omega))).other W554 (own_ne (by omega))).keep K556 (ninS (own_ne (by omega)) nin0))
   have c571 : Exa Z h556 a1_2 oS0 := (((((((((((((((((g2_0.ext E4).ext E7).wr W8).wr W9).keep K11).ext E532).ext E535).wr W536).wr W537).wr W538).keep K540).ext E548).ext E551).wr W552).wr W553).wr W554).keep K556)
   have c572 : Fld Z h556 a1_2 oS0 "value" "[B" (.ref r_2) := (((((((((((((((((g2_1.ext E4).ext E7).other W8 (Or.inl (own_ne (by omega)))).other W9 (Or.inl (own_ne (by omega)))).keep K11 (ninS (own_ne (by omega)) nin0)).ext E532).ext E535).other W536 (Or.inl (own_ne (by omega)))).other W537 (Or.inl (own_ne (by omega)))).other W538 (Or.inl (own_ne (by omega)))).keep K540 (ninS (own_ne (by omega)) nin0)).ext E548).ext E551).other W552 (Or.inl (own_ne (by omega)))).other W553 (Or.inl (own_ne (by omega)))).other W554 (Or.inl (own_ne (by omega)))).keep K556 (ninS (own_ne (by omega)) nin0))
   have c573 : Fld Z h556 a1_2 oS0 "coder" "B" (.int (0 : Int32)) := (((((((((((((((((g2_2.ext E4).ext E7).other W8 (Or.inl (own_ne (by omega)))).other W9 (Or.inl (own_ne (by omega)))).keep K11 (ninS (own_ne (by omega)) nin0)).ext E532).ext E535).other W536 (Or.inl (own_ne (by omega)))).other W537 (Or.inl (own_ne (by omega)))).other W538 (Or.inl (own_ne (by omega)))).keep K540 (ninS (own_ne (by omega)) nin0)).ext E548).ext E551).other W552 (Or.inl (own_ne (by omega)))).other W553 (Or.inl (own_ne (by omega)))).other W554 (Or.inl (own_ne (by omega)))).keep K556 (ninS (own_ne (by omega)) nin0))
   have c574 : Arv Z h556 r_2 kr_2 .byte (1 : Int32) [(.int (own_by u6))] (.int (0 : Int32)) := (((((((((((((((((g2_3.ext E4).ext E7).other W8 (own_ne (by omega))).other W9 (own_ne (by omega))).keep K11 (ninS (own_ne (by omega)) nin0)).ext E532).ext E535).other W536 (own_ne (by omega))).other W537 (own_ne (by omega))).other W538 (own_ne (by omega))).keep K540 (ninS (own_ne (by omega)) nin0)).ext E548).ext E551).other W552 (own_ne (by omega))).other W553 (own_ne (by omega))).other W554 (own_ne (by omega))).keep K556 (ninS (own_ne (by omega)) nin0))
   have c575 : Exa Z h556 b4 oS0 := ((((((((((((g11_0.ext E532).ext E535).wr W536).wr W537).wr W538).keep K540).ext E548).ext E551).wr W552).wr W553).wr W554).keep K556)
   have c576 : Fld Z h556 b4 oS0 "value" "[B" (.ref r_11) := ((((((((((((g11_1.ext E532).ext E535).other W536 (Or.inl (own_ne (by omega)))).other W537 (Or.inl (own_ne (by omega)))).other W538 (Or.inl (own_ne (by omega)))).keep K540 (ninS (own_ne (by omega)) nin0)).ext E548).ext E551).other W552 (Or.inl (own_ne (by omega)))).other W553 (Or.inl (own_ne (by omega)))).other W554 (Or.inl (own_ne (by omega)))).keep K556 (ninS (own_ne (by omega)) nin0))
   have c577 : Fld Z h556 b4 oS0 "coder" "B" (.int (0 : Int32)) := ((((((((((((g11_2.ext E532).ext E535).other W536 (Or.inl (own_ne (by omega)))).other W537 (Or.inl (own_ne (by omega)))).other W538 (Or.inl (own_ne (by omega)))).keep K540 (ninS (own_ne (by omega)) nin0)).ext E548).ext E551).other W552 (Or.inl (own_ne (by omega)))).other W553 (Or.inl (own_ne (by omega)))).other W554 (Or.inl (own_ne (by omega)))).keep K556 (ninS (own_ne (by omega)) nin0))
   have c578 : Arv Z h556 r_11 kr_11 .byte (2 : Int32) [(.int (own_by u7)), (.int (own_by u8))] (.int (0 : Int32)) := ((((((((((((g11_3.ext E532).ext E535).other W536 (own_ne (by omega))).other W537 (own_ne (by omega))).other W538 (own_ne (by omega))).keep K540 (ninS (own_ne (by omega)) nin0)).ext E548).ext E551).other W552 (own_ne (by omega))).other W553 (own_ne (by omega))).other W554 (own_ne (by omega))).keep K556 (ninS (own_ne (by omega)) nin0))
   have c579 : Exa Z h556 b532 oS0 := ((((((g540_0.ext E548).ext E551).wr W552).wr W553).wr W554).keep K556)
   have c580 : Fld Z h556 b532 oS0 "value" "[B" (.ref r_540) := ((((((g540_1.ext E548).ext E551).other W552 (Or.inl (own_ne (by omega)))).other W553 (Or.inl (own_ne (by omega)))).other W554 (Or.inl (own_ne (by omega)))).keep K556 (ninS (own_ne (by omega)) nin0))
   have c581 : Fld Z h556 b532 oS0 "coder" "B" (.int (0 : Int32)) := ((((((g540_2.ext E548).ext E551).other W552 (Or.inl (own_ne (by omega)))).other W553 (Or.inl (own_ne (by omega)))).other W554 (Or.inl (own_ne (by omega)))).keep K556 (ninS (own_ne (by omega)) nin0))
   have c582 : Arv Z h556 r_540 kr_540 .byte (3 : Int32) [(.int (own_by u12)), (.int (own_by u13)), (.int (own_by u14))] (.int (0 : Int32)) := ((((((g540_3.ext E548).ext E551).other W552 (own_ne (by omega))).other W553 (own_ne (by omega))).other W554 (own_ne (by omega))).keep K556 (ninS (own_ne (by omega)) nin0))
   exact J315_18 _ _ _ b532 b548 r_540 r_556 kr_540 kr_556 _ _ (own_widen X556 (by decide) (by decide)) e556 N556 hS0 (by omega) hZ hown AA562 (show @Ne Nat b532 b548 by omega) (by omega) c563 c564 c565 c566 c567 c568 c569 c570 c571 c572 c573 c574 c575 c576 c577 c578 c579 c580 c581 c582 g556_0 g556_1 g556_2 g556_3
set_option maxRecDepth 65536 in
set_option maxHeartbeats 40000000 in
theorem comes_1 {Post : Tables → Env → Array Value → State → Outcome → State → Prop} (hpost : ∀ tb e args s v u, (limb_1_1.after args s (.returned v) u = true ∧ limb_1_2.after args s (.returned v) u = true ∧ True) → ReturnedEndW s (.returned v) u (Jvm.fieldLocs frame_1_writes args s ++ Jvm.arrayLocs frame_1_arrays args s ++ Jvm.staticLocs frame_1_statics s) 64 1280 → Post tb e args s (.returned v) u) :
    ArmFor flags0 classFile x code maxLocals ret World_1 tables_1 room_1 Calls_1 rest_1 Pre_1 Post := by
  intro l hfl _ _ p e ha hc hk s m args below hf hA hF happ hP
  obtain ⟨hcalls, hrest, hpre⟩ := hP
  obtain ⟨-, -, -, hnamed, -, -, -, hat⟩ := (Spec.applies_iff hf).mp happ
  obtain ⟨hg, hn⟩ := and_e (Cond.before_iff.mp (show (Jvm.Cond.and given_1 narrow_1).before args s = true from hpre))
  obtain ⟨h1, h2⟩ := and_e hg
  obtain ⟨w0, w1, w2, w3, rfl⟩ : ∃ w0 w1 w2 w3 : Value, args = #[w0, w1, w2, w3] := by
    have hs : args.size = 4 := by simpa [Cond.value, given_1] using h1
    obtain ⟨L⟩ := args
    match L, hs with
    | [w0, w1, w2, w3], _ => exact ⟨w0, w1, w2, w3, rfl⟩
  have hw := fun d (hd : d ∈ tables_1) => atoms_spec (ws := Jvm.Cond.code x code maxLocals ret :: tables_1) hat d (List.mem_cons_of_mem _ hd)
  have hfit : Fit s := fun {y c} hc i hi => by
    obtain ⟨ha, rfl⟩ := Array.getElem?_eq_some_iff.mp hc
    have q := List.all_eq_true.mp ((Array.all_eq_true_iff_forall_mem.mp hF) _ (Array.getElem_mem ha)) i (List.mem_range.mpr hi)
    simpa [Array.getElem?_eq_getElem hi] using q
  obtain ⟨hsets, hown0⟩ := atoms_of _ (rest_1_c_eq ▸ (show rest_1_c.before _ s = true from hrest))
  obtain ⟨ha0, hr0⟩ := and_e h2
  obtain ⟨p0, ev0⟩ := is_v ha0
  obtain rfl : w0 = (.int p0) := Option.some.inj ev0
  obtain ⟨ha1, hr1⟩ := and_e hr0
  obtain ⟨p1, ev1⟩ := is_v ha1
  obtain rfl : w1 = (.int p1) := Option.some.inj ev1
  obtain ⟨ha2, hr2⟩ := and_e hr1
  obtain ⟨p2, ev2⟩ := is_v ha2
  obtain rfl : w2 = (.int p2) := Option.some.inj ev2
  obtain ⟨p3, ev3⟩ := is_v hr2
  obtain rfl : w3 = (.int p3) := Option.some.inj ev3
  obtain ⟨zc, ezc⟩ := is_v (Cond.before_iff.mp (hsets _ (List.mem_of_getElem? (i := 1) rfl)))
  have szc : Sta s s.heap oS0 oS4 "Z" (.int zc) := Sta.start ezc (Or.inl (hsets _ (List.mem_of_getElem? (i := 0) rfl)))
  have hzc : ¬ zc = (0 : Int32) := fun q0 => by
    have q := (hsets _ (List.mem_of_getElem? (i := 2) rfl))
    simp only [Cond.before, Cond.holds, Cond.value, ezc, q0] at q
    simp [Term.eval] at q
  obtain ⟨de, ede⟩ := arr_v (Cond.before_iff.mp (hsets _ (List.mem_of_getElem? (i := 15) rfl)))
  obtain ⟨clde, Arde⟩ := Arr.start ede (Cond.before_iff.mp (hsets _ (List.mem_of_getElem? (i := 15) rfl)))
  have sde : Sta s s.heap oS1 oS10 oS3 (.ref de) := Sta.start ede (Or.inr ⟨(own_hw hw 46), (hsets _ (List.mem_of_getElem? (i := 11) rfl))⟩)
  have lnde := own_len ede Arde.1 (Cond.before_iff.mp (hsets _ (List.mem_of_getElem? (i := 17) rfl)))
  have vde : Arv s s.heap de clde.cls (.object oS2) (0 : Int32) [] .null := Arv.start hfit Arde lnde.1 lnde.2 (by decide) rfl trivial
  obtain ⟨em, eem⟩ := exa_v (Cond.before_iff.mp (hsets _ (List.mem_of_getElem? (i := 20) rfl)))
  have sem : Sta s s.heap oS7 "EMPTY" oS5 (.ref em) := Sta.start eem (Or.inl (hsets _ (List.mem_of_getElem? (i := 19) rfl)))
  obtain ⟨n, o, h1, h2, h3, _, L, rfl, hQ, hq⟩ := rm0 l s _ hw tables_1 p0 p1 p2 p3 de clde.cls em zc s.heap s.heap.size (Nat.le_refl _) szc hzc sde vde sem p e ha hc hk s m _ below hf ((Spec.applies_iff_loose hf).mp happ).1 ⟨rfl, State.Warmed39.refl s, rfl, CHv.start (own_ew hw) (fun p hp => hcalls.1 p (own_el p hp)) (hsets _ (List.mem_of_getElem? (i := 2) rfl)) (own_hw hw 14) (own_hw hw 10)⟩ trivial
  obtain ⟨rfl, N, -⟩ := hQ
  refine ⟨n, _, h1, h2, h3, hpost _ _ _ _ _ _ ⟨Cond.after_iff.mpr rfl, Cond.after_iff.mpr (eq_i res_at (Term.int_eval (1)) rfl), trivial⟩ ⟨hq.1, hq.2.1, hq.2.2.1, (hq.2.2.2.sift fun y hy => Or.inr (N y hy)).mono (by decide) (by decide)⟩⟩
theorem main_1_1 : Claimed_1_1 := comes_1 fun _ _ _ _ _ _ h hF => ⟨h.1, hF⟩
theorem main_1_2 : Claimed_1_2 := comes_1 fun _ _ _ _ _ _ h hF => ⟨h.2.1, hF⟩
end Jvm.Pilot.@@N@@
namespace Jvm.Pilot.@@N@@
open Jvm Jvm.ClassFile Sem Op Lib Jvm.Free Jvm.Stand Jvm.Pilot.@@N@@.Jvm.D
/-! MADE BY PROGRAM (witnessworld.py) out of the Statement's table words and the real class files: 36 classes; the members and pool entries that the words name. The judged class is class 1, her method 1. -/
namespace start1
open Jvm.ClassFile
def u (s : String) : CpInfo := .utf8 (stringToUtf16 s)
/-- a pool by its gaps: so many unusable entries, then the entry; so many at the end -/
def gap : Nat → List CpInfo → List CpInfo
  | 0, r => r
  | n + 1, r => .unusable :: gap n r
def poolList (es : List (Nat × CpInfo)) (last : Nat) : List CpInfo := es.foldr (fun e r => gap e.1 (e.2 :: r)) (gap last [])
def pool (es : List (Nat × CpInfo)) (last : Nat) : Array CpInfo := ⟨poolList es last⟩
def fileOf (pool : Array CpInfo) (this : Nat) (attrs : Array Attribute := #[]) (ms : Array MethodInfo := #[]) (fl : Nat := 33) (sup : Nat := 0) (ifs : Array Nat := #[]) (fds : Array FieldInfo := #[]) : ClassFile where
  minorVersion := 0
  majorVersion := 65
  constantPool := pool
  accessFlags := fl
  thisClass := this
  superClass := sup
  interfaces := ifs
  fields := fds
  methods := ms
  attributes := attrs
def plain (name : String) (sup : Option ClassId) : Class where
  name := name
  kind := .ordinary
  loader := none
  accessFlags := 33
  super := sup
  interfaces := #[]
  cf := none
  fields := #[]
  methods := #[]
  instanceTypes := #[]
  staticTypes := #[]
  resolved := #[]
  callSites := []
  init := .initialized
  statics := none
  mirror := none

def pool0 : Array CpInfo := pool [(5, u "<init>"), (0, u "()V"), (1, .class_ 10), (1, u "java/lang/Object")] 113

def k0c0 : Code := { maxStack := 0, maxLocals := 1, code := object_method_1_code, exceptionTable := #[], attributes := #[] }
def k0m0 : Method := { name := "<init>", desc := "()V", sig := { parameters := [], returnType := none }, accessFlags := 1, code := some k0c0 }
/-- java/lang/Object -/
def k0 : Class := { plain "java/lang/Object" none with
  accessFlags := 33
  interfaces := #[]
  cf := some (fileOf pool0 8 #[] #[{ accessFlags := 1, nameIndex := 5, descriptorIndex := 6, attributes := #[] }] 33 0 #[] #[])
  fields := #[]
  methods := #[k0m0]
  instanceTypes := #[]
  staticTypes := #[]
  resolved := Array.replicate 124 none
  statics := none }

def pool1 : Array CpInfo := pool [(2, .class_ 4), (0, .nameAndType 5 6), (0, u "java/lang/Object"), (0, u "<init>"), (0, u "()V"), (0, .methodref 8 9), (0, .class_ 10), (0, .nameAndType 11 12), (0, u "java/lang/String"), (0, u "valueOf"), (0, u "(C)Ljava/lang/String;"), (0, .methodref 8 14), (0, .nameAndType 5 15), (0, u "([C)V"), (0, .class_ 17), (0, u "java/util/ArrayList"), (0, .methodref 16 3), (0, .interfaceMethodref 20 21), (0, .class_ 22), (0, .nameAndType 23 24), (0, u "java/util/List"), (0, u "add"), (0, u "(Ljava/lang/Object;)Z"), (0, .methodref 26 27), (0, .class_ 28), (0, .nameAndType 29 30), (0, u "com/example/scatterkeep/scatterkeep/protocol/AccessPoint$Reply"), (0, u "doneWithWarning"), (0, u "(Ljava/util/List;Ljava/lang/String;)Lcom/example/scatterkeep/scatterkeep/protocol/AccessPoint$Reply;"), (0, .methodref 26 32), (0, .nameAndType 33 34), (0, u "getStatus"), (0, u "()I"), (0, .methodref 26 36), (0, .nameAndType 37 38), (0, u "getErr"), (0, u "()Ljava/util/List;"), (0, .interfaceMethodref 20 40), (0, .nameAndType 41 34), (0, u "size"), (0, .interfaceMethodref 20 43), (0, .nameAndType 44 45), (0, u "get"), (0, u "(I)Ljava/lang/Object;"), (0, .methodref 8 47), (0, .nameAndType 48 24), (0, u "equals"), (0, .methodref 26 50), (0, .nameAndType 51 38), (0, u "getOut"), (0, .class_ 53), (0, u "com/example/scatterkeep/scatterkeep/protocol/ReplyDoneWithWarningPinLaw"), (2, u "law"), (0, u "(IIII)Z")] 7

def k1m0 : Method := { name := "<init>", desc := "()V", sig := { parameters := [], returnType := none }, accessFlags := 2, code := none }
def k1c1 : Code := { maxStack := 7, maxLocals := 22, code := code, exceptionTable := #[], attributes := #[] }
def k1m1 : Method := { name := "law", desc := "(IIII)Z", sig := { parameters := [.int, .int, .int, .int], returnType := some .boolean }, accessFlags := 9, code := some k1c1 }
/-- com/example/scatterkeep/scatterkeep/protocol/ReplyDoneWithWarningPinLaw -/
def k1 : Class := { plain "com/example/scatterkeep/scatterkeep/protocol/ReplyDoneWithWarningPinLaw" (some 0) with
  accessFlags := 49
  interfaces := #[]
  cf := some (fileOf pool1 52 #[] #[{ accessFlags := 2, nameIndex := 5, descriptorIndex := 6, attributes := #[] }, { accessFlags := 9, nameIndex := 56, descriptorIndex := 57, attributes := #[] }] 49 2 #[] #[])
  fields := #[]
  methods := #[k1m0, k1m1]
  instanceTypes := #[]
  staticTypes := #[]
  resolved := Array.replicate 65 none
  statics := none }

def pool2 : Array CpInfo := pool [(1, .class_ 2), (0, u "java/io/Serializable"), (0, .class_ 4), (0, u "java/lang/Object")] 2

/-- java/io/Serializable -/
def k2 : Class := { plain "java/io/Serializable" (some 0) with
  accessFlags := 1537
  interfaces := #[]
  cf := some (fileOf pool2 1 #[] #[] 1537 3 #[] #[])
  fields := #[]
  methods := #[]
  instanceTypes := #[]
  staticTypes := #[]
  resolved := Array.replicate 7 none
  statics := none }

def pool3 : Array CpInfo := pool [(1, .class_ 2), (0, u "java/lang/Comparable"), (0, .class_ 4), (0, u "java/lang/Object")] 7

/-- java/lang/Comparable -/
def k3 : Class := { plain "java/lang/Comparable" (some 0) with
  accessFlags := 1537
  interfaces := #[]
  cf := some (fileOf pool3 1 #[] #[] 1537 3 #[] #[])
  fields := #[]
  methods := #[]
  instanceTypes := #[]
  staticTypes := #[]
  resolved := Array.replicate 12 none
  statics := none }

def pool4 : Array CpInfo := pool [(2, .class_ 4), (1, u "java/lang/CharSequence"), (42, .class_ 48), (0, u "java/lang/CharSequence$1CodePointIterator"), (10, .class_ 60), (0, u "java/lang/CharSequence$1CharIterator"), (5, .class_ 67), (0, u "java/lang/Object")] 63

/-- java/lang/CharSequence -/
def k4 : Class := { plain "java/lang/CharSequence" (some 0) with
  accessFlags := 1537
  interfaces := #[]
  cf := some (fileOf pool4 2 #[.nestMembers #[47, 59]] #[] 1537 66 #[] #[])
  fields := #[]
  methods := #[]
  instanceTypes := #[]
  staticTypes := #[]
  resolved := Array.replicate 131 none
  statics := none }

def pool5 : Array CpInfo := pool [(1, .class_ 2), (0, u "java/lang/constant/Constable"), (0, .class_ 4), (0, u "java/lang/Object")] 6

/-- java/lang/constant/Constable -/
def k5 : Class := { plain "java/lang/constant/Constable" (some 0) with
  accessFlags := 1537
  interfaces := #[]
  cf := some (fileOf pool5 1 #[] #[] 1537 3 #[] #[])
  fields := #[]
  methods := #[]
  instanceTypes := #[]
  staticTypes := #[]
  resolved := Array.replicate 11 none
  statics := none }

def pool6 : Array CpInfo := pool [(1, .class_ 2), (0, u "java/lang/constant/ConstantDesc"), (0, .class_ 4), (0, u "java/lang/Object")] 32

/-- java/lang/constant/ConstantDesc -/
def k6 : Class := { plain "java/lang/constant/ConstantDesc" (some 0) with
  accessFlags := 1537
  interfaces := #[]
  cf := some (fileOf pool6 1 #[] #[] 1537 3 #[] #[])
  fields := #[]
  methods := #[]
  instanceTypes := #[]
  staticTypes := #[]
  resolved := Array.replicate 37 none
  statics := none }

def pool7 : Array CpInfo := pool [(1, .methodref 2 3), (0, .class_ 4), (0, .nameAndType 5 6), (0, u "java/lang/Object"), (0, u "<init>"), (0, u "()V"), (0, .string 8), (0, u ""), (0, .fieldref 10 11), (0, .class_ 12), (0, .nameAndType 13 14), (0, u "java/lang/String"), (0, u "value"), (0, u "[B"), (0, .fieldref 10 16), (0, .nameAndType 17 18), (0, u "coder"), (0, u "B"), (2, u "hash"), (0, u "I"), (2, u "hashIsZero"), (0, u "Z"), (0, .methodref 10 28), (0, .nameAndType 5 29), (0, u "([CIILjava/lang/Void;)V"), (8, .fieldref 10 39), (0, .nameAndType 40 26), (0, u "COMPACT_STRINGS"), (1, .class_ 44), (1, u "java/lang/StringUTF16"), (0, u "compress"), (1, .methodref 42 48), (0, .nameAndType 49 50), (0, u "coderFromArrayLen"), (0, u "([BI)B"), (2, u "toBytes"), (53, .class_ 109), (1, u "java/lang/StringLatin1"), (67, .methodref 42 178), (0, .nameAndType 45 179), (0, u "([CII)[B"), (29, .methodref 10 210), (0, .nameAndType 5 211), (0, u "([BB)V"), (157, u "(C)Z"), (171, .methodref 107 542), (0, .nameAndType 543 544), (0, u "equals"), (0, u "([B[B)Z"), (28, u "(Ljava/lang/Object;)Z"), (1, .class_ 576), (0, u "java/lang/CharSequence"), (22, u "CASE_INSENSITIVE_ORDER"), (0, u "Ljava/util/Comparator;"), (181, u "valueOf"), (0, u "(C)Ljava/lang/String;"), (226, u "([C)V"), (4, .methodref 107 1016), (0, .nameAndType 1017 369), (0, u "canEncode"), (0, .methodref 107 1019), (0, .nameAndType 53 1020), (0, u "(C)[B"), (80, u "serialPersistentFields"), (0, u "[Ljava/io/ObjectStreamField;"), (0, .class_ 1104), (0, u "java/lang/String$CaseInsensitiveComparator"), (1, .class_ 1107), (0, u "java/io/Serializable"), (0, .class_ 1109), (0, u "java/lang/Comparable"), (0, .class_ 1111), (0, u "java/lang/constant/Constable"), (0, .class_ 1113), (0, u "java/lang/constant/ConstantDesc"), (2, u "serialVersionUID"), (0, u "J"), (3, u "REPL"), (0, u "C"), (2, u "LATIN1"), (1, u "UTF16")] 323

def k7m0 : Method := { name := "<init>", desc := "()V", sig := { parameters := [], returnType := none }, accessFlags := 1, code := none }
def k7c1 : Code := { maxStack := 5, maxLocals := 2, code := jdk_42_method_3_code, exceptionTable := #[], attributes := #[] }
def k7m1 : Method := { name := "<init>", desc := "([C)V", sig := { parameters := [(.array .char)], returnType := none }, accessFlags := 1, code := some k7c1 }
def k7c2 : Code := { maxStack := 2, maxLocals := 3, code := jdk_42_method_66_code, exceptionTable := #[], attributes := #[] }
def k7m2 : Method := { name := "equals", desc := "(Ljava/lang/Object;)Z", sig := { parameters := [(.object "java/lang/Object")], returnType := some .boolean }, accessFlags := 1, code := some k7c2 }
def k7c3 : Code := { maxStack := 4, maxLocals := 1, code := jdk_42_method_139_code, exceptionTable := #[], attributes := #[] }
def k7m3 : Method := { name := "valueOf", desc := "(C)Ljava/lang/String;", sig := { parameters := [.char], returnType := some (.object "java/lang/String") }, accessFlags := 9, code := some k7c3 }
def k7c4 : Code := { maxStack := 4, maxLocals := 6, code := jdk_42_method_149_code, exceptionTable := #[], attributes := #[] }
def k7m4 : Method := { name := "<init>", desc := "([CIILjava/lang/Void;)V", sig := { parameters := [(.array .char), .int, .int, (.object "java/lang/Void")], returnType := none }, accessFlags := 2, code := some k7c4 }
def k7c5 : Code := { maxStack := 2, maxLocals := 3, code := jdk_42_method_151_code, exceptionTable := #[], attributes := #[] }
def k7m5 : Method := { name := "<init>", desc := "([BB)V", sig := { parameters := [(.array .byte), .byte], returnType := none }, accessFlags := 0, code := some k7c5 }
/-- java/lang/String -/
def k7 : Class := { plain "java/lang/String" (some 0) with
  accessFlags := 49
  interfaces := #[2, 3, 4, 5, 6]
  cf := some (fileOf pool7 10 #[.nestMembers #[1103]] #[{ accessFlags := 1, nameIndex := 5, descriptorIndex := 6, attributes := #[] }, { accessFlags := 1, nameIndex := 5, descriptorIndex := 1010, attributes := #[] }, { accessFlags := 1, nameIndex := 543, descriptorIndex := 573, attributes := #[] }, { accessFlags := 9, nameIndex := 782, descriptorIndex := 783, attributes := #[] }, { accessFlags := 2, nameIndex := 5, descriptorIndex := 29, attributes := #[] }, { accessFlags := 0, nameIndex := 5, descriptorIndex := 211, attributes := #[] }] 49 2 #[1106, 1108, 575, 1110, 1112] #[{ accessFlags := 18, nameIndex := 13, descriptorIndex := 14, attributes := #[] }, { accessFlags := 18, nameIndex := 17, descriptorIndex := 18, attributes := #[] }, { accessFlags := 2, nameIndex := 21, descriptorIndex := 22, attributes := #[] }, { accessFlags := 2, nameIndex := 25, descriptorIndex := 26, attributes := #[] }, { accessFlags := 26, nameIndex := 1116, descriptorIndex := 1117, attributes := #[] }, { accessFlags := 24, nameIndex := 40, descriptorIndex := 26, attributes := #[] }, { accessFlags := 26, nameIndex := 1101, descriptorIndex := 1102, attributes := #[] }, { accessFlags := 26, nameIndex := 1121, descriptorIndex := 1122, attributes := #[] }, { accessFlags := 25, nameIndex := 599, descriptorIndex := 600, attributes := #[] }, { accessFlags := 24, nameIndex := 1125, descriptorIndex := 18, attributes := #[] }, { accessFlags := 24, nameIndex := 1127, descriptorIndex := 18, attributes := #[] }])
  fields := #[{ name := "value", type := (.array .byte), accessFlags := 18, slot := 0, constantValue := 0 }, { name := "coder", type := .byte, accessFlags := 18, slot := 1, constantValue := 0 }, { name := "hash", type := .int, accessFlags := 2, slot := 2, constantValue := 0 }, { name := "hashIsZero", type := .boolean, accessFlags := 2, slot := 3, constantValue := 0 }, { name := "serialVersionUID", type := .long, accessFlags := 26, slot := 0, constantValue := 0 }, { name := "COMPACT_STRINGS", type := .boolean, accessFlags := 24, slot := 1, constantValue := 0 }, { name := "serialPersistentFields", type := (.array (.object "java/io/ObjectStreamField")), accessFlags := 26, slot := 2, constantValue := 0 }, { name := "REPL", type := .char, accessFlags := 26, slot := 3, constantValue := 0 }, { name := "CASE_INSENSITIVE_ORDER", type := (.object "java/util/Comparator"), accessFlags := 25, slot := 4, constantValue := 0 }, { name := "LATIN1", type := .byte, accessFlags := 24, slot := 5, constantValue := 0 }, { name := "UTF16", type := .byte, accessFlags := 24, slot := 6, constantValue := 0 }]
  methods := #[k7m0, k7m1, k7m2, k7m3, k7m4, k7m5]
  instanceTypes := #[(.array .byte), .byte, .int, .boolean]
  staticTypes := #[.long, .boolean, (.array (.object "java/io/ObjectStreamField")), .char, (.object "java/util/Comparator"), .byte, .byte]
  resolved := Array.replicate 1451 none
  statics := some 0 }

def pool8 : Array CpInfo := pool [(4, .class_ 6), (1, u "java/lang/Object"), (0, u "<init>"), (0, u "()V"), (5, .class_ 16), (1, u "java/lang/StringLatin1"), (73, u "canEncode"), (14, u "(C)Z"), (15, u "$assertionsDisabled"), (0, u "Z"), (98, .class_ 223), (1, u "java/lang/StringLatin1$LinesSpliterator"), (57, u "equals"), (0, u "([B[B)Z"), (97, u "toBytes"), (1, u "(C)[B"), (7, .class_ 391), (0, u "java/lang/StringLatin1$CharsSpliterator")] 3

def k8m0 : Method := { name := "<init>", desc := "()V", sig := { parameters := [], returnType := none }, accessFlags := 0, code := none }
def k8c1 : Code := { maxStack := 2, maxLocals := 1, code := jdk_43_method_3_code, exceptionTable := #[], attributes := #[] }
def k8m1 : Method := { name := "canEncode", desc := "(C)Z", sig := { parameters := [.char], returnType := some .boolean }, accessFlags := 9, code := some k8c1 }
def k8c2 : Code := { maxStack := 3, maxLocals := 3, code := jdk_43_method_13_code, exceptionTable := #[], attributes := #[] }
def k8m2 : Method := { name := "equals", desc := "([B[B)Z", sig := { parameters := [(.array .byte), (.array .byte)], returnType := some .boolean }, accessFlags := 9, code := some k8c2 }
def k8c3 : Code := { maxStack := 4, maxLocals := 1, code := jdk_43_method_46_code, exceptionTable := #[], attributes := #[] }
def k8m3 : Method := { name := "toBytes", desc := "(C)[B", sig := { parameters := [.char], returnType := some (.array .byte) }, accessFlags := 9, code := some k8c3 }
/-- java/lang/StringLatin1 -/
def k8 : Class := { plain "java/lang/StringLatin1" (some 0) with
  accessFlags := 48
  interfaces := #[]
  cf := some (fileOf pool8 14 #[.nestMembers #[390, 221]] #[{ accessFlags := 0, nameIndex := 7, descriptorIndex := 8, attributes := #[] }, { accessFlags := 9, nameIndex := 90, descriptorIndex := 105, attributes := #[] }, { accessFlags := 9, nameIndex := 281, descriptorIndex := 282, attributes := #[] }, { accessFlags := 9, nameIndex := 380, descriptorIndex := 382, attributes := #[] }] 48 4 #[] #[{ accessFlags := 4120, nameIndex := 121, descriptorIndex := 122, attributes := #[] }])
  fields := #[{ name := "$assertionsDisabled", type := .boolean, accessFlags := 4120, slot := 0, constantValue := 0 }]
  methods := #[k8m0, k8m1, k8m2, k8m3]
  instanceTypes := #[]
  staticTypes := #[.boolean]
  resolved := Array.replicate 395 none
  statics := none }

def pool9 : Array CpInfo := pool [(6, .class_ 8), (1, u "java/lang/Object"), (0, u "<init>"), (0, u "()V"), (1, .class_ 14), (1, u "java/lang/StringUTF16"), (31, u "$assertionsDisabled"), (0, u "Z"), (13, u "HI_BYTE_SHIFT"), (0, u "I"), (2, u "LO_BYTE_SHIFT"), (49, .methodref 12 116), (0, .nameAndType 117 118), (0, u "compress"), (0, u "([CI[BII)I"), (3, u "([CII)[B"), (138, u "coderFromArrayLen"), (0, u "([BI)B"), (106, .class_ 371), (1, u "java/lang/StringUTF16$LinesSpliterator"), (58, u "MAX_LENGTH"), (196, .class_ 628), (0, u "java/lang/StringUTF16$CodePointsSpliterator"), (0, .class_ 630), (0, u "java/lang/StringUTF16$CharsSpliterator")] 4

def k9m0 : Method := { name := "<init>", desc := "()V", sig := { parameters := [], returnType := none }, accessFlags := 0, code := none }
def k9c1 : Code := { maxStack := 2, maxLocals := 2, code := jdk_52_method_15_code, exceptionTable := #[], attributes := #[] }
def k9m1 : Method := { name := "coderFromArrayLen", desc := "([BI)B", sig := { parameters := [(.array .byte), .int], returnType := some .byte }, accessFlags := 8, code := some k9c1 }
def k9c2 : Code := { maxStack := 5, maxLocals := 6, code := jdk_52_method_16_code, exceptionTable := #[], attributes := #[] }
def k9m2 : Method := { name := "compress", desc := "([CII)[B", sig := { parameters := [(.array .char), .int, .int], returnType := some (.array .byte) }, accessFlags := 9, code := some k9c2 }
def k9c3 : Code := { maxStack := 3, maxLocals := 7, code := jdk_52_method_21_code, exceptionTable := #[], attributes := #[] }
def k9m3 : Method := { name := "compress", desc := "([CI[BII)I", sig := { parameters := [(.array .char), .int, (.array .byte), .int, .int], returnType := some .int }, accessFlags := 9, code := some k9c3 }
/-- java/lang/StringUTF16 -/
def k9 : Class := { plain "java/lang/StringUTF16" (some 0) with
  accessFlags := 48
  interfaces := #[]
  cf := some (fileOf pool9 12 #[.nestMembers #[627, 629, 369]] #[{ accessFlags := 0, nameIndex := 9, descriptorIndex := 10, attributes := #[] }, { accessFlags := 8, nameIndex := 261, descriptorIndex := 262, attributes := #[] }, { accessFlags := 9, nameIndex := 117, descriptorIndex := 122, attributes := #[] }, { accessFlags := 9, nameIndex := 117, descriptorIndex := 118, attributes := #[] }] 48 6 #[] #[{ accessFlags := 26, nameIndex := 61, descriptorIndex := 62, attributes := #[] }, { accessFlags := 26, nameIndex := 65, descriptorIndex := 62, attributes := #[] }, { accessFlags := 24, nameIndex := 430, descriptorIndex := 62, attributes := #[] }, { accessFlags := 4120, nameIndex := 46, descriptorIndex := 47, attributes := #[] }])
  fields := #[{ name := "HI_BYTE_SHIFT", type := .int, accessFlags := 26, slot := 0, constantValue := 0 }, { name := "LO_BYTE_SHIFT", type := .int, accessFlags := 26, slot := 1, constantValue := 0 }, { name := "MAX_LENGTH", type := .int, accessFlags := 24, slot := 2, constantValue := 0 }, { name := "$assertionsDisabled", type := .boolean, accessFlags := 4120, slot := 3, constantValue := 0 }]
  methods := #[k9m0, k9m1, k9m2, k9m3]
  instanceTypes := #[]
  staticTypes := #[.int, .int, .int, .boolean]
  resolved := Array.replicate 635 none
  statics := none }

def pool10 : Array CpInfo := pool [(8, .class_ 10), (1, u "java/lang/Iterable"), (24, .class_ 36), (0, u "java/lang/Object")] 25

/-- java/lang/Iterable -/
def k10 : Class := { plain "java/lang/Iterable" (some 0) with
  accessFlags := 1537
  interfaces := #[]
  cf := some (fileOf pool10 8 #[] #[] 1537 35 #[] #[])
  fields := #[]
  methods := #[]
  instanceTypes := #[]
  staticTypes := #[]
  resolved := Array.replicate 62 none
  statics := none }

def pool11 : Array CpInfo := pool [(10, .class_ 12), (1, u "java/util/Collection"), (47, .class_ 61), (0, u "java/lang/Object"), (0, .class_ 63), (0, u "java/lang/Iterable")] 51

/-- java/util/Collection -/
def k11 : Class := { plain "java/util/Collection" (some 0) with
  accessFlags := 1537
  interfaces := #[10]
  cf := some (fileOf pool11 10 #[] #[] 1537 60 #[62] #[])
  fields := #[]
  methods := #[]
  instanceTypes := #[]
  staticTypes := #[]
  resolved := Array.replicate 115 none
  statics := none }

def pool12 : Array CpInfo := pool [(1, .methodref 2 3), (0, .class_ 4), (0, .nameAndType 5 6), (0, u "java/lang/Object"), (0, u "<init>"), (0, u "()V"), (1, .class_ 10), (1, u "java/util/AbstractCollection"), (66, .class_ 78), (0, u "java/util/Collection")] 81

def k12c0 : Code := { maxStack := 1, maxLocals := 1, code := jdk_22_method_1_code, exceptionTable := #[], attributes := #[] }
def k12m0 : Method := { name := "<init>", desc := "()V", sig := { parameters := [], returnType := none }, accessFlags := 4, code := some k12c0 }
/-- java/util/AbstractCollection -/
def k12 : Class := { plain "java/util/AbstractCollection" (some 0) with
  accessFlags := 1057
  interfaces := #[11]
  cf := some (fileOf pool12 8 #[] #[{ accessFlags := 4, nameIndex := 5, descriptorIndex := 6, attributes := #[] }] 1057 2 #[77] #[])
  fields := #[]
  methods := #[k12m0]
  instanceTypes := #[]
  staticTypes := #[]
  resolved := Array.replicate 160 none
  statics := none }

def pool13 : Array CpInfo := pool [(8, .class_ 10), (1, u "java/util/SequencedCollection"), (15, .class_ 27), (0, u "java/lang/Object"), (0, .class_ 29), (0, u "java/util/Collection")] 27

/-- java/util/SequencedCollection -/
def k13 : Class := { plain "java/util/SequencedCollection" (some 0) with
  accessFlags := 1537
  interfaces := #[11]
  cf := some (fileOf pool13 8 #[] #[] 1537 26 #[28] #[])
  fields := #[]
  methods := #[]
  instanceTypes := #[]
  staticTypes := #[]
  resolved := Array.replicate 57 none
  statics := none }

def pool14 : Array CpInfo := pool [(8, .class_ 10), (1, u "java/util/List"), (20, u "(Ljava/lang/Object;)V"), (16, u "<init>"), (11, u "add"), (3, u "(Ljava/lang/Object;)Z"), (10, u "get"), (0, u "(I)Ljava/lang/Object;"), (2, u "size"), (0, u "()I"), (7, u "of"), (7, .class_ 97), (0, u "java/util/ImmutableCollections$List12"), (0, .methodref 96 99), (0, .nameAndType 48 31), (3, .class_ 104), (0, u "java/lang/Object"), (15, .class_ 121), (0, u "java/util/SequencedCollection"), (76, u "(Ljava/lang/Object;)Ljava/util/List;")] 52

def k14m0 : Method := { name := "size", desc := "()I", sig := { parameters := [], returnType := some .int }, accessFlags := 1025, code := none }
def k14m1 : Method := { name := "add", desc := "(Ljava/lang/Object;)Z", sig := { parameters := [(.object "java/lang/Object")], returnType := some .boolean }, accessFlags := 1025, code := none }
def k14m2 : Method := { name := "get", desc := "(I)Ljava/lang/Object;", sig := { parameters := [.int], returnType := some (.object "java/lang/Object") }, accessFlags := 1025, code := none }
def k14c3 : Code := { maxStack := 3, maxLocals := 1, code := jdk_40_method_37_code, exceptionTable := #[], attributes := #[] }
def k14m3 : Method := { name := "of", desc := "(Ljava/lang/Object;)Ljava/util/List;", sig := { parameters := [(.object "java/lang/Object")], returnType := some (.object "java/util/List") }, accessFlags := 9, code := some k14c3 }
/-- java/util/List -/
def k14 : Class := { plain "java/util/List" (some 0) with
  accessFlags := 1537
  interfaces := #[13]
  cf := some (fileOf pool14 8 #[] #[{ accessFlags := 1025, nameIndex := 79, descriptorIndex := 80, attributes := #[] }, { accessFlags := 1025, nameIndex := 60, descriptorIndex := 64, attributes := #[] }, { accessFlags := 1025, nameIndex := 75, descriptorIndex := 76, attributes := #[] }, { accessFlags := 9, nameIndex := 88, descriptorIndex := 198, attributes := #[] }] 1537 103 #[120] #[])
  fields := #[]
  methods := #[k14m0, k14m1, k14m2, k14m3]
  instanceTypes := #[]
  staticTypes := #[]
  resolved := Array.replicate 251 none
  statics := none }

def pool15 : Array CpInfo := pool [(1, .methodref 2 3), (0, .class_ 4), (0, .nameAndType 5 6), (0, u "java/util/AbstractCollection"), (0, u "<init>"), (0, u "()V"), (0, .fieldref 8 9), (0, .class_ 10), (0, .nameAndType 11 12), (0, u "java/util/AbstractList"), (0, u "modCount"), (0, u "I"), (64, .class_ 78), (0, u "java/util/AbstractList$Itr"), (3, .class_ 83), (0, u "java/util/AbstractList$ListItr"), (9, .class_ 94), (0, u "java/util/AbstractList$RandomAccessSubList"), (3, .class_ 99), (0, u "java/util/AbstractList$SubList"), (33, .class_ 134), (0, u "java/util/List"), (73, .class_ 209), (0, u "java/util/AbstractList$SubList$1"), (0, .class_ 211), (0, u "java/util/AbstractList$RandomAccessSpliterator")] 6

def k15c0 : Code := { maxStack := 2, maxLocals := 1, code := jdk_39_method_1_code, exceptionTable := #[], attributes := #[] }
def k15m0 : Method := { name := "<init>", desc := "()V", sig := { parameters := [], returnType := none }, accessFlags := 4, code := some k15c0 }
/-- java/util/AbstractList -/
def k15 : Class := { plain "java/util/AbstractList" (some 12) with
  accessFlags := 1057
  interfaces := #[14]
  cf := some (fileOf pool15 8 #[.nestMembers #[93, 98, 208, 210, 82, 77]] #[{ accessFlags := 4, nameIndex := 5, descriptorIndex := 6, attributes := #[] }] 1057 2 #[133] #[{ accessFlags := 132, nameIndex := 11, descriptorIndex := 12, attributes := #[] }])
  fields := #[{ name := "modCount", type := .int, accessFlags := 132, slot := 0, constantValue := 0 }]
  methods := #[k15m0]
  instanceTypes := #[.int]
  staticTypes := #[]
  resolved := Array.replicate 218 none
  statics := none }

def pool16 : Array CpInfo := pool [(1, .class_ 2), (0, u "java/util/RandomAccess"), (0, .class_ 4), (0, u "java/lang/Object")] 2

/-- java/util/RandomAccess -/
def k16 : Class := { plain "java/util/RandomAccess" (some 0) with
  accessFlags := 1537
  interfaces := #[]
  cf := some (fileOf pool16 1 #[] #[] 1537 3 #[] #[])
  fields := #[]
  methods := #[]
  instanceTypes := #[]
  staticTypes := #[]
  resolved := Array.replicate 7 none
  statics := none }

def pool17 : Array CpInfo := pool [(1, .class_ 2), (0, u "java/lang/Cloneable"), (0, .class_ 4), (0, u "java/lang/Object")] 2

/-- java/lang/Cloneable -/
def k17 : Class := { plain "java/lang/Cloneable" (some 0) with
  accessFlags := 1537
  interfaces := #[]
  cf := some (fileOf pool17 1 #[] #[] 1537 3 #[] #[])
  fields := #[]
  methods := #[]
  instanceTypes := #[]
  staticTypes := #[]
  resolved := Array.replicate 7 none
  statics := none }

def pool18 : Array CpInfo := pool [(1, .methodref 2 3), (0, .class_ 4), (0, .nameAndType 5 6), (0, u "java/util/AbstractList"), (0, u "<init>"), (0, u "()V"), (0, .class_ 8), (0, u "java/lang/Object"), (0, .fieldref 10 11), (0, .class_ 12), (0, .nameAndType 13 14), (0, u "java/util/ArrayList"), (0, u "elementData"), (0, u "[Ljava/lang/Object;"), (2, u "EMPTY_ELEMENTDATA"), (21, .fieldref 10 40), (0, .nameAndType 41 14), (0, u "DEFAULTCAPACITY_EMPTY_ELEMENTDATA"), (5, u "()[Ljava/lang/Object;"), (0, .fieldref 10 49), (0, .nameAndType 50 51), (0, u "size"), (0, u "I"), (11, .fieldref 10 64), (0, .nameAndType 65 51), (0, u "modCount"), (3, .methodref 10 70), (0, .nameAndType 71 72), (0, u "grow"), (0, u "(I)[Ljava/lang/Object;"), (6, .methodref 80 81), (0, .class_ 82), (0, .nameAndType 83 84), (0, u "java/lang/Math"), (0, u "max"), (0, u "(II)I"), (11, u "(Ljava/lang/Object;)Z"), (21, .methodref 119 120), (0, .class_ 121), (0, .nameAndType 122 84), (0, u "java/util/Objects"), (0, u "checkIndex"), (0, .methodref 10 124), (0, .nameAndType 13 125), (0, u "(I)Ljava/lang/Object;"), (3, .methodref 10 130), (0, .nameAndType 71 47), (0, .methodref 10 132), (0, .nameAndType 133 134), (0, u "add"), (0, u "(Ljava/lang/Object;[Ljava/lang/Object;I)V"), (13, .class_ 149), (0, u "java/util/List"), (36, u "()I"), (75, .class_ 263), (0, u "java/util/ArrayList$ListItr"), (3, .class_ 268), (0, u "java/util/ArrayList$Itr"), (7, .class_ 277), (0, u "java/util/ArrayList$SubList"), (12, .class_ 291), (0, u "java/util/ArrayList$ArrayListSpliterator"), (37, .class_ 330), (0, u "java/util/RandomAccess"), (0, .class_ 332), (0, u "java/lang/Cloneable"), (0, .class_ 334), (0, u "java/io/Serializable"), (0, u "serialVersionUID"), (0, u "J"), (3, u "DEFAULT_CAPACITY"), (40, u "get"), (118, .class_ 501), (0, u "java/util/ArrayList$SubList$2"), (0, .class_ 503), (0, u "java/util/ArrayList$SubList$1")] 5

def k18c0 : Code := { maxStack := 2, maxLocals := 1, code := jdk_38_method_2_code, exceptionTable := #[], attributes := #[] }
def k18m0 : Method := { name := "<init>", desc := "()V", sig := { parameters := [], returnType := none }, accessFlags := 1, code := some k18c0 }
def k18c1 : Code := { maxStack := 4, maxLocals := 4, code := jdk_38_method_6_code, exceptionTable := #[], attributes := #[] }
def k18m1 : Method := { name := "grow", desc := "(I)[Ljava/lang/Object;", sig := { parameters := [.int], returnType := some (.array (.object "java/lang/Object")) }, accessFlags := 2, code := some k18c1 }
def k18c2 : Code := { maxStack := 3, maxLocals := 1, code := jdk_38_method_7_code, exceptionTable := #[], attributes := #[] }
def k18m2 : Method := { name := "grow", desc := "()[Ljava/lang/Object;", sig := { parameters := [], returnType := some (.array (.object "java/lang/Object")) }, accessFlags := 2, code := some k18c2 }
def k18c3 : Code := { maxStack := 1, maxLocals := 1, code := jdk_38_method_8_code, exceptionTable := #[], attributes := #[] }
def k18m3 : Method := { name := "size", desc := "()I", sig := { parameters := [], returnType := some .int }, accessFlags := 1, code := some k18c3 }
def k18c4 : Code := { maxStack := 2, maxLocals := 2, code := jdk_38_method_18_code, exceptionTable := #[], attributes := #[] }
def k18m4 : Method := { name := "elementData", desc := "(I)Ljava/lang/Object;", sig := { parameters := [.int], returnType := some (.object "java/lang/Object") }, accessFlags := 0, code := some k18c4 }
def k18c5 : Code := { maxStack := 2, maxLocals := 2, code := jdk_38_method_20_code, exceptionTable := #[], attributes := #[] }
def k18m5 : Method := { name := "get", desc := "(I)Ljava/lang/Object;", sig := { parameters := [.int], returnType := some (.object "java/lang/Object") }, accessFlags := 1, code := some k18c5 }
def k18c6 : Code := { maxStack := 3, maxLocals := 4, code := jdk_38_method_24_code, exceptionTable := #[], attributes := #[] }
def k18m6 : Method := { name := "add", desc := "(Ljava/lang/Object;[Ljava/lang/Object;I)V", sig := { parameters := [(.object "java/lang/Object"), (.array (.object "java/lang/Object")), .int], returnType := none }, accessFlags := 2, code := some k18c6 }
def k18c7 : Code := { maxStack := 4, maxLocals := 2, code := jdk_38_method_25_code, exceptionTable := #[], attributes := #[] }
def k18m7 : Method := { name := "add", desc := "(Ljava/lang/Object;)Z", sig := { parameters := [(.object "java/lang/Object")], returnType := some .boolean }, accessFlags := 1, code := some k18c7 }
/-- java/util/ArrayList -/
def k18 : Class := { plain "java/util/ArrayList" (some 15) with
  accessFlags := 33
  interfaces := #[14, 16, 17, 2]
  cf := some (fileOf pool18 10 #[.nestMembers #[290, 276, 500, 502, 262, 267]] #[{ accessFlags := 1, nameIndex := 5, descriptorIndex := 6, attributes := #[] }, { accessFlags := 2, nameIndex := 71, descriptorIndex := 72, attributes := #[] }, { accessFlags := 2, nameIndex := 71, descriptorIndex := 47, attributes := #[] }, { accessFlags := 1, nameIndex := 50, descriptorIndex := 186, attributes := #[] }, { accessFlags := 0, nameIndex := 13, descriptorIndex := 125, attributes := #[] }, { accessFlags := 1, nameIndex := 381, descriptorIndex := 125, attributes := #[] }, { accessFlags := 2, nameIndex := 133, descriptorIndex := 134, attributes := #[] }, { accessFlags := 1, nameIndex := 133, descriptorIndex := 96, attributes := #[] }] 33 2 #[148, 329, 331, 333] #[{ accessFlags := 26, nameIndex := 335, descriptorIndex := 336, attributes := #[] }, { accessFlags := 26, nameIndex := 340, descriptorIndex := 51, attributes := #[] }, { accessFlags := 26, nameIndex := 17, descriptorIndex := 14, attributes := #[] }, { accessFlags := 26, nameIndex := 41, descriptorIndex := 14, attributes := #[] }, { accessFlags := 128, nameIndex := 13, descriptorIndex := 14, attributes := #[] }, { accessFlags := 2, nameIndex := 50, descriptorIndex := 51, attributes := #[] }])
  fields := #[{ name := "serialVersionUID", type := .long, accessFlags := 26, slot := 0, constantValue := 0 }, { name := "DEFAULT_CAPACITY", type := .int, accessFlags := 26, slot := 1, constantValue := 0 }, { name := "EMPTY_ELEMENTDATA", type := (.array (.object "java/lang/Object")), accessFlags := 26, slot := 2, constantValue := 0 }, { name := "DEFAULTCAPACITY_EMPTY_ELEMENTDATA", type := (.array (.object "java/lang/Object")), accessFlags := 26, slot := 3, constantValue := 0 }, { name := "elementData", type := (.array (.object "java/lang/Object")), accessFlags := 128, slot := 1, constantValue := 0 }, { name := "size", type := .int, accessFlags := 2, slot := 2, constantValue := 0 }]
  methods := #[k18m0, k18m1, k18m2, k18m3, k18m4, k18m5, k18m6, k18m7]
  instanceTypes := #[.int, (.array (.object "java/lang/Object")), .int]
  staticTypes := #[.long, .int, (.array (.object "java/lang/Object")), (.array (.object "java/lang/Object"))]
  resolved := Array.replicate 509 none
  statics := some 1 }

def pool19 : Array CpInfo := pool [(1, .methodref 2 3), (0, .class_ 4), (0, .nameAndType 5 6), (0, u "java/lang/Object"), (0, u "<init>"), (0, u "()V"), (0, .fieldref 8 9), (0, .class_ 10), (0, .nameAndType 11 12), (0, u "com/example/scatterkeep/scatterkeep/protocol/AccessPoint$Reply"), (0, u "m_nStatus"), (0, u "I"), (0, .fieldref 8 14), (0, .nameAndType 15 16), (0, u "m_aOut"), (0, u "Ljava/util/List;"), (0, .fieldref 8 18), (0, .nameAndType 19 16), (0, u "m_aErr"), (3, .class_ 25), (1, u "java/util/List"), (0, u "of"), (0, u "()Ljava/util/List;"), (0, .methodref 8 29), (0, .nameAndType 5 30), (0, u "(ILjava/util/List;Ljava/util/List;)V"), (0, .interfaceMethodref 23 32), (0, .nameAndType 26 33), (0, u "(Ljava/lang/Object;)Ljava/util/List;"), (8, u "doneWithWarning"), (0, u "(Ljava/util/List;Ljava/lang/String;)Lcom/example/scatterkeep/scatterkeep/protocol/AccessPoint$Reply;"), (5, u "getStatus"), (0, u "()I"), (0, u "getOut"), (1, u "getErr"), (3, .class_ 58), (0, u "com/example/scatterkeep/scatterkeep/protocol/AccessPoint")] 2

def k19c0 : Code := { maxStack := 2, maxLocals := 4, code := prog_49_method_1_code, exceptionTable := #[], attributes := #[] }
def k19m0 : Method := { name := "<init>", desc := "(ILjava/util/List;Ljava/util/List;)V", sig := { parameters := [.int, (.object "java/util/List"), (.object "java/util/List")], returnType := none }, accessFlags := 2, code := some k19c0 }
def k19c1 : Code := { maxStack := 5, maxLocals := 2, code := prog_49_method_3_code, exceptionTable := #[], attributes := #[] }
def k19m1 : Method := { name := "doneWithWarning", desc := "(Ljava/util/List;Ljava/lang/String;)Lcom/example/scatterkeep/scatterkeep/protocol/AccessPoint$Reply;", sig := { parameters := [(.object "java/util/List"), (.object "java/lang/String")], returnType := some (.object "com/example/scatterkeep/scatterkeep/protocol/AccessPoint$Reply") }, accessFlags := 9, code := some k19c1 }
def k19c2 : Code := { maxStack := 1, maxLocals := 1, code := prog_49_method_7_code, exceptionTable := #[], attributes := #[] }
def k19m2 : Method := { name := "getStatus", desc := "()I", sig := { parameters := [], returnType := some .int }, accessFlags := 1, code := some k19c2 }
def k19c3 : Code := { maxStack := 1, maxLocals := 1, code := prog_49_method_8_code, exceptionTable := #[], attributes := #[] }
def k19m3 : Method := { name := "getOut", desc := "()Ljava/util/List;", sig := { parameters := [], returnType := some (.object "java/util/List") }, accessFlags := 1, code := some k19c3 }
def k19c4 : Code := { maxStack := 1, maxLocals := 1, code := prog_49_method_9_code, exceptionTable := #[], attributes := #[] }
def k19m4 : Method := { name := "getErr", desc := "()Ljava/util/List;", sig := { parameters := [], returnType := some (.object "java/util/List") }, accessFlags := 1, code := some k19c4 }
/-- com/example/scatterkeep/scatterkeep/protocol/AccessPoint$Reply -/
def k19 : Class := { plain "com/example/scatterkeep/scatterkeep/protocol/AccessPoint$Reply" (some 0) with
  accessFlags := 49
  interfaces := #[]
  cf := some (fileOf pool19 8 #[.nestHost 57] #[{ accessFlags := 2, nameIndex := 5, descriptorIndex := 30, attributes := #[] }, { accessFlags := 9, nameIndex := 42, descriptorIndex := 43, attributes := #[] }, { accessFlags := 1, nameIndex := 49, descriptorIndex := 50, attributes := #[] }, { accessFlags := 1, nameIndex := 51, descriptorIndex := 27, attributes := #[] }, { accessFlags := 1, nameIndex := 53, descriptorIndex := 27, attributes := #[] }] 49 2 #[] #[{ accessFlags := 18, nameIndex := 11, descriptorIndex := 12, attributes := #[] }, { accessFlags := 18, nameIndex := 15, descriptorIndex := 16, attributes := #[] }, { accessFlags := 18, nameIndex := 19, descriptorIndex := 16, attributes := #[] }])
  fields := #[{ name := "m_nStatus", type := .int, accessFlags := 18, slot := 0, constantValue := 0 }, { name := "m_aOut", type := (.object "java/util/List"), accessFlags := 18, slot := 1, constantValue := 0 }, { name := "m_aErr", type := (.object "java/util/List"), accessFlags := 18, slot := 2, constantValue := 0 }]
  methods := #[k19m0, k19m1, k19m2, k19m3, k19m4]
  instanceTypes := #[.int, (.object "java/util/List"), (.object "java/util/List")]
  staticTypes := #[]
  resolved := Array.replicate 61 none
  statics := none }

def pool20 : Array CpInfo := pool [(1, .methodref 2 3), (0, .class_ 4), (0, .nameAndType 5 6), (0, u "java/util/AbstractCollection"), (0, u "<init>"), (0, u "()V"), (1, .class_ 10), (1, u "java/util/ImmutableCollections"), (2, .class_ 14), (0, u "java/util/ImmutableCollections$AbstractImmutableCollection")] 41

def k20c0 : Code := { maxStack := 1, maxLocals := 1, code := jdk_47_method_1_code, exceptionTable := #[], attributes := #[] }
def k20m0 : Method := { name := "<init>", desc := "()V", sig := { parameters := [], returnType := none }, accessFlags := 0, code := some k20c0 }
/-- java/util/ImmutableCollections$AbstractImmutableCollection -/
def k20 : Class := { plain "java/util/ImmutableCollections$AbstractImmutableCollection" (some 12) with
  accessFlags := 1056
  interfaces := #[]
  cf := some (fileOf pool20 13 #[.nestHost 8] #[{ accessFlags := 0, nameIndex := 5, descriptorIndex := 6, attributes := #[] }] 1056 2 #[] #[])
  fields := #[]
  methods := #[k20m0]
  instanceTypes := #[]
  staticTypes := #[]
  resolved := Array.replicate 56 none
  statics := none }

def pool21 : Array CpInfo := pool [(1, .methodref 2 3), (0, .class_ 4), (0, .nameAndType 5 6), (0, u "java/util/ImmutableCollections$AbstractImmutableCollection"), (0, u "<init>"), (0, u "()V"), (1, .class_ 10), (1, u "java/util/ImmutableCollections"), (3, .class_ 16), (1, u "java/util/ImmutableCollections$AbstractImmutableList"), (60, .class_ 78), (0, u "java/util/List"), (45, .class_ 125), (0, u "java/util/RandomAccess")] 70

def k21c0 : Code := { maxStack := 1, maxLocals := 1, code := jdk_46_method_1_code, exceptionTable := #[], attributes := #[] }
def k21m0 : Method := { name := "<init>", desc := "()V", sig := { parameters := [], returnType := none }, accessFlags := 0, code := some k21c0 }
/-- java/util/ImmutableCollections$AbstractImmutableList -/
def k21 : Class := { plain "java/util/ImmutableCollections$AbstractImmutableList" (some 20) with
  accessFlags := 1056
  interfaces := #[14, 16]
  cf := some (fileOf pool21 14 #[.nestHost 8] #[{ accessFlags := 0, nameIndex := 5, descriptorIndex := 6, attributes := #[] }] 1056 2 #[77, 124] #[])
  fields := #[]
  methods := #[k21m0]
  instanceTypes := #[]
  staticTypes := #[]
  resolved := Array.replicate 196 none
  statics := none }

def pool22 : Array CpInfo := pool [(1, .methodref 2 3), (0, .class_ 4), (0, .nameAndType 5 6), (0, u "java/util/ImmutableCollections$AbstractImmutableList"), (0, u "<init>"), (0, u "()V"), (0, .methodref 8 9), (0, .class_ 10), (0, .nameAndType 11 12), (0, u "java/util/Objects"), (0, u "requireNonNull"), (0, u "(Ljava/lang/Object;)Ljava/lang/Object;"), (0, .fieldref 14 15), (0, .class_ 16), (0, .nameAndType 17 18), (0, u "java/util/ImmutableCollections$List12"), (0, u "e0"), (0, u "Ljava/lang/Object;"), (0, .fieldref 20 21), (0, .class_ 22), (0, .nameAndType 23 18), (0, u "java/util/ImmutableCollections"), (0, u "EMPTY"), (0, .fieldref 14 25), (0, .nameAndType 26 18), (0, u "e1"), (24, u "size"), (0, u "()I"), (17, .class_ 71), (0, u "java/io/Serializable"), (4, u "(Ljava/lang/Object;)V"), (13, u "get"), (0, u "(I)Ljava/lang/Object;")] 33

def k22c0 : Code := { maxStack := 2, maxLocals := 2, code := jdk_44_method_1_code, exceptionTable := #[], attributes := #[] }
def k22m0 : Method := { name := "<init>", desc := "(Ljava/lang/Object;)V", sig := { parameters := [(.object "java/lang/Object")], returnType := none }, accessFlags := 0, code := some k22c0 }
def k22c1 : Code := { maxStack := 2, maxLocals := 1, code := jdk_44_method_3_code, exceptionTable := #[], attributes := #[] }
def k22m1 : Method := { name := "size", desc := "()I", sig := { parameters := [], returnType := some .int }, accessFlags := 1, code := some k22c1 }
def k22c2 : Code := { maxStack := 2, maxLocals := 2, code := jdk_44_method_5_code, exceptionTable := #[], attributes := #[] }
def k22m2 : Method := { name := "get", desc := "(I)Ljava/lang/Object;", sig := { parameters := [.int], returnType := some (.object "java/lang/Object") }, accessFlags := 1, code := some k22c2 }
/-- java/util/ImmutableCollections$List12 -/
def k22 : Class := { plain "java/util/ImmutableCollections$List12" (some 21) with
  accessFlags := 48
  interfaces := #[2]
  cf := some (fileOf pool22 14 #[.nestHost 20] #[{ accessFlags := 0, nameIndex := 5, descriptorIndex := 76, attributes := #[] }, { accessFlags := 1, nameIndex := 51, descriptorIndex := 52, attributes := #[] }, { accessFlags := 1, nameIndex := 90, descriptorIndex := 91, attributes := #[] }] 48 2 #[70] #[{ accessFlags := 18, nameIndex := 17, descriptorIndex := 18, attributes := #[] }, { accessFlags := 18, nameIndex := 26, descriptorIndex := 18, attributes := #[] }])
  fields := #[{ name := "e0", type := (.object "java/lang/Object"), accessFlags := 18, slot := 0, constantValue := 0 }, { name := "e1", type := (.object "java/lang/Object"), accessFlags := 18, slot := 1, constantValue := 0 }]
  methods := #[k22m0, k22m1, k22m2]
  instanceTypes := #[(.object "java/lang/Object"), (.object "java/lang/Object")]
  staticTypes := #[]
  resolved := Array.replicate 125 none
  statics := none }

def pool23 : Array CpInfo := pool [(2, .class_ 4), (1, u "java/lang/Object"), (0, u "<init>"), (0, u "()V"), (35, .class_ 44), (1, u "java/util/Objects"), (0, u "requireNonNull"), (0, u "(Ljava/lang/Object;)Ljava/lang/Object;"), (58, .methodref 106 107), (0, .class_ 108), (0, .nameAndType 109 110), (0, u "jdk/internal/util/Preconditions"), (0, u "checkIndex"), (0, u "(IILjava/util/function/BiFunction;)I"), (60, u "(II)I")] 12

def k23m0 : Method := { name := "<init>", desc := "()V", sig := { parameters := [], returnType := none }, accessFlags := 2, code := none }
def k23c1 : Code := { maxStack := 2, maxLocals := 1, code := jdk_31_method_10_code, exceptionTable := #[], attributes := #[] }
def k23m1 : Method := { name := "requireNonNull", desc := "(Ljava/lang/Object;)Ljava/lang/Object;", sig := { parameters := [(.object "java/lang/Object")], returnType := some (.object "java/lang/Object") }, accessFlags := 9, code := some k23c1 }
def k23c2 : Code := { maxStack := 3, maxLocals := 2, code := jdk_31_method_17_code, exceptionTable := #[], attributes := #[] }
def k23m2 : Method := { name := "checkIndex", desc := "(II)I", sig := { parameters := [.int, .int], returnType := some .int }, accessFlags := 9, code := some k23c2 }
/-- java/util/Objects -/
def k23 : Class := { plain "java/util/Objects" (some 0) with
  accessFlags := 49
  interfaces := #[]
  cf := some (fileOf pool23 42 #[] #[{ accessFlags := 2, nameIndex := 5, descriptorIndex := 6, attributes := #[] }, { accessFlags := 9, nameIndex := 45, descriptorIndex := 46, attributes := #[] }, { accessFlags := 9, nameIndex := 109, descriptorIndex := 171, attributes := #[] }] 49 2 #[] #[])
  fields := #[]
  methods := #[k23m0, k23m1, k23m2]
  instanceTypes := #[]
  staticTypes := #[]
  resolved := Array.replicate 184 none
  statics := none }

def pool24 : Array CpInfo := pool [(2, .class_ 4), (1, u "java/lang/Object"), (0, u "<init>"), (0, u "()V"), (3, .class_ 11), (0, u "java/util/ImmutableCollections$List12"), (0, .class_ 13), (0, u "java/util/ImmutableCollections$ListN"), (3, u "Z"), (29, .class_ 49), (1, u "java/util/ImmutableCollections"), (0, u "$assertionsDisabled"), (5, u "[Ljava/lang/Object;"), (5, u "EMPTY_LIST"), (0, u "Ljava/util/ImmutableCollections$ListN;"), (8, u "EMPTY_LIST_NULLS"), (22, u "SALT32L"), (0, u "J"), (2, u "REVERSE"), (6, u "archivedObjects"), (2, u "EMPTY"), (0, u "Ljava/lang/Object;"), (0, .class_ 112), (0, u "java/util/ImmutableCollections$SetN"), (5, u "EMPTY_SET"), (0, u "Ljava/util/ImmutableCollections$SetN;"), (0, .class_ 121), (0, u "java/util/ImmutableCollections$MapN"), (3, u "EMPTY_MAP"), (0, u "Ljava/util/ImmutableCollections$MapN;"), (4, u "EXPAND_FACTOR"), (0, u "I"), (36, .class_ 170), (0, u "java/util/ImmutableCollections$MapN$MapNIterator"), (0, .class_ 172), (0, u "java/util/ImmutableCollections$MapN$1"), (0, .class_ 174), (0, u "java/util/ImmutableCollections$Map1"), (0, .class_ 176), (0, u "java/util/ImmutableCollections$AbstractImmutableMap"), (0, .class_ 178), (0, u "java/util/ImmutableCollections$SetN$SetNIterator"), (0, .class_ 180), (0, u "java/util/ImmutableCollections$Set12"), (0, .class_ 182), (0, u "java/util/ImmutableCollections$Set12$1"), (0, .class_ 184), (0, u "java/util/ImmutableCollections$AbstractImmutableSet"), (0, .class_ 186), (0, u "java/util/ImmutableCollections$SubList"), (0, .class_ 188), (0, u "java/util/ImmutableCollections$ListItr"), (0, .class_ 190), (0, u "java/util/ImmutableCollections$AbstractImmutableList"), (0, .class_ 192), (0, u "java/util/ImmutableCollections$AbstractImmutableCollection"), (0, .class_ 194), (0, u "java/util/ImmutableCollections$Access"), (0, .class_ 196), (0, u "java/util/ImmutableCollections$Access$1")] 16

def k24m0 : Method := { name := "<init>", desc := "()V", sig := { parameters := [], returnType := none }, accessFlags := 2, code := none }
/-- java/util/ImmutableCollections -/
def k24 : Class := { plain "java/util/ImmutableCollections" (some 0) with
  accessFlags := 32
  interfaces := #[]
  cf := some (fileOf pool24 47 #[.nestMembers #[120, 169, 171, 173, 175, 111, 177, 179, 181, 183, 12, 10, 185, 187, 189, 191, 193, 195]] #[{ accessFlags := 2, nameIndex := 5, descriptorIndex := 6, attributes := #[] }] 32 2 #[] #[{ accessFlags := 26, nameIndex := 95, descriptorIndex := 96, attributes := #[] }, { accessFlags := 26, nameIndex := 99, descriptorIndex := 17, attributes := #[] }, { accessFlags := 10, nameIndex := 106, descriptorIndex := 56, attributes := #[] }, { accessFlags := 26, nameIndex := 109, descriptorIndex := 110, attributes := #[] }, { accessFlags := 24, nameIndex := 62, descriptorIndex := 63, attributes := #[] }, { accessFlags := 24, nameIndex := 72, descriptorIndex := 63, attributes := #[] }, { accessFlags := 24, nameIndex := 118, descriptorIndex := 119, attributes := #[] }, { accessFlags := 24, nameIndex := 125, descriptorIndex := 126, attributes := #[] }, { accessFlags := 24, nameIndex := 131, descriptorIndex := 132, attributes := #[] }, { accessFlags := 4120, nameIndex := 50, descriptorIndex := 17, attributes := #[] }])
  fields := #[{ name := "SALT32L", type := .long, accessFlags := 26, slot := 0, constantValue := 0 }, { name := "REVERSE", type := .boolean, accessFlags := 26, slot := 1, constantValue := 0 }, { name := "archivedObjects", type := (.array (.object "java/lang/Object")), accessFlags := 10, slot := 2, constantValue := 0 }, { name := "EMPTY", type := (.object "java/lang/Object"), accessFlags := 26, slot := 3, constantValue := 0 }, { name := "EMPTY_LIST", type := (.object "java/util/ImmutableCollections$ListN"), accessFlags := 24, slot := 4, constantValue := 0 }, { name := "EMPTY_LIST_NULLS", type := (.object "java/util/ImmutableCollections$ListN"), accessFlags := 24, slot := 5, constantValue := 0 }, { name := "EMPTY_SET", type := (.object "java/util/ImmutableCollections$SetN"), accessFlags := 24, slot := 6, constantValue := 0 }, { name := "EMPTY_MAP", type := (.object "java/util/ImmutableCollections$MapN"), accessFlags := 24, slot := 7, constantValue := 0 }, { name := "EXPAND_FACTOR", type := .int, accessFlags := 24, slot := 8, constantValue := 0 }, { name := "$assertionsDisabled", type := .boolean, accessFlags := 4120, slot := 9, constantValue := 0 }]
  methods := #[k24m0]
  instanceTypes := #[]
  staticTypes := #[.long, .boolean, (.array (.object "java/lang/Object")), (.object "java/lang/Object"), (.object "java/util/ImmutableCollections$ListN"), (.object "java/util/ImmutableCollections$ListN"), (.object "java/util/ImmutableCollections$SetN"), (.object "java/util/ImmutableCollections$MapN"), .int, .boolean]
  resolved := Array.replicate 213 none
  statics := some 2 }

def pool25 : Array CpInfo := pool [(1, .class_ 2), (0, u "java/lang/Math"), (1, .class_ 6), (1, u "java/lang/Object"), (0, u "<init>"), (0, u "()V"), (89, .class_ 100), (1, u "java/lang/Math$RandomNumberGeneratorHolder"), (71, u "negativeZeroFloatBits"), (0, u "J"), (2, u "negativeZeroDoubleBits"), (21, u "max"), (46, u "$assertionsDisabled"), (0, u "Z"), (88, u "(II)I"), (2, u "twoToTheDoubleScaleDown"), (0, u "D"), (4, u "twoToTheDoubleScaleUp"), (9, u "E"), (3, u "PI"), (2, u "TAU"), (2, u "DEGREES_TO_RADIANS"), (0, u "RADIANS_TO_DEGREES")] 94

def k25m0 : Method := { name := "<init>", desc := "()V", sig := { parameters := [], returnType := none }, accessFlags := 2, code := none }
def k25c1 : Code := { maxStack := 2, maxLocals := 2, code := jdk_29_method_65_code, exceptionTable := #[], attributes := #[] }
def k25m1 : Method := { name := "max", desc := "(II)I", sig := { parameters := [.int, .int], returnType := some .int }, accessFlags := 9, code := some k25c1 }
/-- java/lang/Math -/
def k25 : Class := { plain "java/lang/Math" (some 0) with
  accessFlags := 49
  interfaces := #[]
  cf := some (fileOf pool25 1 #[.nestMembers #[98]] #[{ accessFlags := 2, nameIndex := 7, descriptorIndex := 8, attributes := #[] }, { accessFlags := 9, nameIndex := 198, descriptorIndex := 335, attributes := #[] }] 49 4 #[] #[{ accessFlags := 25, nameIndex := 354, descriptorIndex := 339, attributes := #[] }, { accessFlags := 25, nameIndex := 358, descriptorIndex := 339, attributes := #[] }, { accessFlags := 25, nameIndex := 361, descriptorIndex := 339, attributes := #[] }, { accessFlags := 26, nameIndex := 364, descriptorIndex := 339, attributes := #[] }, { accessFlags := 26, nameIndex := 365, descriptorIndex := 339, attributes := #[] }, { accessFlags := 26, nameIndex := 172, descriptorIndex := 173, attributes := #[] }, { accessFlags := 26, nameIndex := 176, descriptorIndex := 173, attributes := #[] }, { accessFlags := 8, nameIndex := 344, descriptorIndex := 339, attributes := #[] }, { accessFlags := 8, nameIndex := 338, descriptorIndex := 339, attributes := #[] }, { accessFlags := 4120, nameIndex := 245, descriptorIndex := 246, attributes := #[] }])
  fields := #[{ name := "E", type := .double, accessFlags := 25, slot := 0, constantValue := 0 }, { name := "PI", type := .double, accessFlags := 25, slot := 1, constantValue := 0 }, { name := "TAU", type := .double, accessFlags := 25, slot := 2, constantValue := 0 }, { name := "DEGREES_TO_RADIANS", type := .double, accessFlags := 26, slot := 3, constantValue := 0 }, { name := "RADIANS_TO_DEGREES", type := .double, accessFlags := 26, slot := 4, constantValue := 0 }, { name := "negativeZeroFloatBits", type := .long, accessFlags := 26, slot := 5, constantValue := 0 }, { name := "negativeZeroDoubleBits", type := .long, accessFlags := 26, slot := 6, constantValue := 0 }, { name := "twoToTheDoubleScaleUp", type := .double, accessFlags := 8, slot := 7, constantValue := 0 }, { name := "twoToTheDoubleScaleDown", type := .double, accessFlags := 8, slot := 8, constantValue := 0 }, { name := "$assertionsDisabled", type := .boolean, accessFlags := 4120, slot := 9, constantValue := 0 }]
  methods := #[k25m0, k25m1]
  instanceTypes := #[]
  staticTypes := #[.double, .double, .double, .double, .double, .long, .long, .double, .double, .boolean]
  resolved := Array.replicate 460 none
  statics := none }

def pool26 : Array CpInfo := pool [(2, .class_ 4), (1, u "java/lang/Object"), (0, u "<init>"), (0, u "()V"), (17, .class_ 26), (1, u "jdk/internal/util/Preconditions"), (6, u "checkIndex"), (21, .class_ 56), (0, u "jdk/internal/util/Preconditions$4"), (57, .class_ 115), (0, u "jdk/internal/util/Preconditions$1"), (7, u "SIOOBE_FORMATTER"), (0, u "Ljava/util/function/BiFunction;"), (0, .class_ 126), (0, u "jdk/internal/util/Preconditions$2"), (3, u "AIOOBE_FORMATTER"), (0, .class_ 132), (0, u "jdk/internal/util/Preconditions$3"), (3, u "IOOBE_FORMATTER"), (41, u "(IILjava/util/function/BiFunction;)I")] 15

def k26m0 : Method := { name := "<init>", desc := "()V", sig := { parameters := [], returnType := none }, accessFlags := 1, code := none }
def k26c1 : Code := { maxStack := 3, maxLocals := 3, code := jdk_41_method_11_code, exceptionTable := #[], attributes := #[] }
def k26m1 : Method := { name := "checkIndex", desc := "(IILjava/util/function/BiFunction;)I", sig := { parameters := [.int, .int, (.object "java/util/function/BiFunction")], returnType := some .int }, accessFlags := 9, code := some k26c1 }
/-- jdk/internal/util/Preconditions -/
def k26 : Class := { plain "jdk/internal/util/Preconditions" (some 0) with
  accessFlags := 33
  interfaces := #[]
  cf := some (fileOf pool26 24 #[.nestMembers #[55, 131, 125, 114]] #[{ accessFlags := 1, nameIndex := 5, descriptorIndex := 6, attributes := #[] }, { accessFlags := 9, nameIndex := 33, descriptorIndex := 178, attributes := #[] }] 33 2 #[] #[{ accessFlags := 25, nameIndex := 123, descriptorIndex := 124, attributes := #[] }, { accessFlags := 25, nameIndex := 130, descriptorIndex := 124, attributes := #[] }, { accessFlags := 25, nameIndex := 136, descriptorIndex := 124, attributes := #[] }])
  fields := #[{ name := "SIOOBE_FORMATTER", type := (.object "java/util/function/BiFunction"), accessFlags := 25, slot := 0, constantValue := 0 }, { name := "AIOOBE_FORMATTER", type := (.object "java/util/function/BiFunction"), accessFlags := 25, slot := 1, constantValue := 0 }, { name := "IOOBE_FORMATTER", type := (.object "java/util/function/BiFunction"), accessFlags := 25, slot := 2, constantValue := 0 }]
  methods := #[k26m0, k26m1]
  instanceTypes := #[]
  staticTypes := #[(.object "java/util/function/BiFunction"), (.object "java/util/function/BiFunction"), (.object "java/util/function/BiFunction")]
  resolved := Array.replicate 194 none
  statics := some 3 }

def pool27 : Array CpInfo := pool [(9, u "<init>"), (6, .class_ 18), (1, u "java/lang/Object"), (0, u "()V"), (1, .class_ 23), (1, u "jdk/internal/util/ArraysSupport"), (0, u "LOG2_ARRAY_LONG_INDEX_SCALE"), (0, u "I"), (2, u "U"), (0, u "Ljdk/internal/misc/Unsafe;"), (8, u "BIG_ENDIAN"), (0, u "Z"), (8, u "LOG2_BYTE_BIT_SIZE"), (4, u "LOG2_ARRAY_INT_INDEX_SCALE"), (54, u "JLA"), (0, u "Ljdk/internal/access/JavaLangAccess;"), (11, u "LOG2_ARRAY_BOOLEAN_INDEX_SCALE"), (9, u "LOG2_ARRAY_BYTE_INDEX_SCALE"), (5, u "LOG2_ARRAY_CHAR_INDEX_SCALE"), (5, u "LOG2_ARRAY_SHORT_INDEX_SCALE"), (18, u "LOG2_ARRAY_FLOAT_INDEX_SCALE"), (24, u "LOG2_ARRAY_DOUBLE_INDEX_SCALE"), (89, u "T_BOOLEAN"), (2, u "T_CHAR"), (1, u "T_FLOAT"), (1, u "T_DOUBLE"), (1, u "T_BYTE"), (1, u "T_SHORT"), (1, u "T_INT"), (1, u "T_LONG"), (1, u "SOFT_MAX_ARRAY_LENGTH")] 83

def k27m0 : Method := { name := "<init>", desc := "()V", sig := { parameters := [], returnType := none }, accessFlags := 2, code := none }
/-- jdk/internal/util/ArraysSupport -/
def k27 : Class := { plain "jdk/internal/util/ArraysSupport" (some 0) with
  accessFlags := 33
  interfaces := #[]
  cf := some (fileOf pool27 21 #[] #[{ accessFlags := 2, nameIndex := 9, descriptorIndex := 19, attributes := #[] }] 33 16 #[] #[{ accessFlags := 24, nameIndex := 28, descriptorIndex := 29, attributes := #[] }, { accessFlags := 26, nameIndex := 38, descriptorIndex := 39, attributes := #[] }, { accessFlags := 25, nameIndex := 121, descriptorIndex := 25, attributes := #[] }, { accessFlags := 25, nameIndex := 131, descriptorIndex := 25, attributes := #[] }, { accessFlags := 25, nameIndex := 137, descriptorIndex := 25, attributes := #[] }, { accessFlags := 25, nameIndex := 143, descriptorIndex := 25, attributes := #[] }, { accessFlags := 25, nameIndex := 53, descriptorIndex := 25, attributes := #[] }, { accessFlags := 25, nameIndex := 24, descriptorIndex := 25, attributes := #[] }, { accessFlags := 25, nameIndex := 162, descriptorIndex := 25, attributes := #[] }, { accessFlags := 25, nameIndex := 187, descriptorIndex := 25, attributes := #[] }, { accessFlags := 26, nameIndex := 48, descriptorIndex := 25, attributes := #[] }, { accessFlags := 25, nameIndex := 277, descriptorIndex := 25, attributes := #[] }, { accessFlags := 25, nameIndex := 280, descriptorIndex := 25, attributes := #[] }, { accessFlags := 25, nameIndex := 282, descriptorIndex := 25, attributes := #[] }, { accessFlags := 25, nameIndex := 284, descriptorIndex := 25, attributes := #[] }, { accessFlags := 25, nameIndex := 286, descriptorIndex := 25, attributes := #[] }, { accessFlags := 25, nameIndex := 288, descriptorIndex := 25, attributes := #[] }, { accessFlags := 25, nameIndex := 290, descriptorIndex := 25, attributes := #[] }, { accessFlags := 25, nameIndex := 292, descriptorIndex := 25, attributes := #[] }, { accessFlags := 26, nameIndex := 108, descriptorIndex := 109, attributes := #[] }, { accessFlags := 25, nameIndex := 294, descriptorIndex := 25, attributes := #[] }])
  fields := #[{ name := "U", type := (.object "jdk/internal/misc/Unsafe"), accessFlags := 24, slot := 0, constantValue := 0 }, { name := "BIG_ENDIAN", type := .boolean, accessFlags := 26, slot := 1, constantValue := 0 }, { name := "LOG2_ARRAY_BOOLEAN_INDEX_SCALE", type := .int, accessFlags := 25, slot := 2, constantValue := 0 }, { name := "LOG2_ARRAY_BYTE_INDEX_SCALE", type := .int, accessFlags := 25, slot := 3, constantValue := 0 }, { name := "LOG2_ARRAY_CHAR_INDEX_SCALE", type := .int, accessFlags := 25, slot := 4, constantValue := 0 }, { name := "LOG2_ARRAY_SHORT_INDEX_SCALE", type := .int, accessFlags := 25, slot := 5, constantValue := 0 }, { name := "LOG2_ARRAY_INT_INDEX_SCALE", type := .int, accessFlags := 25, slot := 6, constantValue := 0 }, { name := "LOG2_ARRAY_LONG_INDEX_SCALE", type := .int, accessFlags := 25, slot := 7, constantValue := 0 }, { name := "LOG2_ARRAY_FLOAT_INDEX_SCALE", type := .int, accessFlags := 25, slot := 8, constantValue := 0 }, { name := "LOG2_ARRAY_DOUBLE_INDEX_SCALE", type := .int, accessFlags := 25, slot := 9, constantValue := 0 }, { name := "LOG2_BYTE_BIT_SIZE", type := .int, accessFlags := 26, slot := 10, constantValue := 0 }, { name := "T_BOOLEAN", type := .int, accessFlags := 25, slot := 11, constantValue := 0 }, { name := "T_CHAR", type := .int, accessFlags := 25, slot := 12, constantValue := 0 }, { name := "T_FLOAT", type := .int, accessFlags := 25, slot := 13, constantValue := 0 }, { name := "T_DOUBLE", type := .int, accessFlags := 25, slot := 14, constantValue := 0 }, { name := "T_BYTE", type := .int, accessFlags := 25, slot := 15, constantValue := 0 }, { name := "T_SHORT", type := .int, accessFlags := 25, slot := 16, constantValue := 0 }, { name := "T_INT", type := .int, accessFlags := 25, slot := 17, constantValue := 0 }, { name := "T_LONG", type := .int, accessFlags := 25, slot := 18, constantValue := 0 }, { name := "JLA", type := (.object "jdk/internal/access/JavaLangAccess"), accessFlags := 26, slot := 19, constantValue := 0 }, { name := "SOFT_MAX_ARRAY_LENGTH", type := .int, accessFlags := 25, slot := 20, constantValue := 0 }]
  methods := #[k27m0]
  instanceTypes := #[]
  staticTypes := #[(.object "jdk/internal/misc/Unsafe"), .boolean, .int, .int, .int, .int, .int, .int, .int, .int, .int, .int, .int, .int, .int, .int, .int, .int, .int, (.object "jdk/internal/access/JavaLangAccess"), .int]
  resolved := Array.replicate 378 none
  statics := none }

def pool28 : Array CpInfo := pool [(2, .class_ 4), (1, u "java/util/ImmutableCollections$AbstractImmutableList"), (3, .class_ 10), (1, u "java/util/ImmutableCollections$ListN"), (0, u "elements"), (0, u "[Ljava/lang/Object;"), (2, u "allowNulls"), (0, u "Z"), (42, .class_ 60), (0, u "java/io/Serializable"), (53, .class_ 115), (0, u "java/util/ImmutableCollections")] 3

/-- java/util/ImmutableCollections$ListN -/
def k28 : Class := { plain "java/util/ImmutableCollections$ListN" (some 21) with
  accessFlags := 48
  interfaces := #[2]
  cf := some (fileOf pool28 8 #[.nestHost 114] #[] 48 2 #[59] #[{ accessFlags := 18, nameIndex := 11, descriptorIndex := 12, attributes := #[] }, { accessFlags := 18, nameIndex := 15, descriptorIndex := 16, attributes := #[] }])
  fields := #[{ name := "elements", type := (.array (.object "java/lang/Object")), accessFlags := 18, slot := 0, constantValue := 0 }, { name := "allowNulls", type := .boolean, accessFlags := 18, slot := 1, constantValue := 0 }]
  methods := #[]
  instanceTypes := #[(.array (.object "java/lang/Object")), .boolean]
  staticTypes := #[]
  resolved := Array.replicate 119 none
  statics := none }

/-- the primitive byte -/
def k29 : Class := { plain "byte" none with kind := .primitive 'B', accessFlags := 0x411 }
/-- [B -/
def k30 : Class := { plain "[B" (some 0) with kind := .array 29 .byte, interfaces := #[17, 2], accessFlags := 1041 }

/-- the primitive char -/
def k31 : Class := { plain "char" none with kind := .primitive 'C', accessFlags := 0x411 }
/-- [C -/
def k32 : Class := { plain "[C" (some 0) with kind := .array 31 .char, interfaces := #[17, 2], accessFlags := 1041 }

/-- the primitive int -/
def k33 : Class := { plain "int" none with kind := .primitive 'I', accessFlags := 0x411 }
/-- [I -/
def k34 : Class := { plain "[I" (some 0) with kind := .array 33 .int, interfaces := #[17, 2], accessFlags := 1041 }

/-- [Ljava/lang/Object; -/
def k35 : Class := { plain "[Ljava/lang/Object;" (some 0) with kind := .array 0 (.object "java/lang/Object"), interfaces := #[17, 2], accessFlags := 1041 }

def heap : Heap := #[{ cls := 7, slots := #[.long 0, .int 1, .null, .int 0, .null, .int 0, .int 0], vm := .statics 7 },
  { cls := 18, slots := #[.long 0, .int 0, .ref 4, .ref 5], vm := .statics 18 },
  { cls := 24, slots := #[.long 0, .int 0, .null, .ref 6, .ref 7, .null, .null, .null, .int 0, .int 1], vm := .statics 24 },
  { cls := 26, slots := #[.null, .null, .null], vm := .statics 26 },
  { cls := 35, slots := #[], vm := .none },
  { cls := 35, slots := #[], vm := .none },
  { cls := 0, slots := #[], vm := .none },
  { cls := 28, slots := #[.null, .int 0], vm := .none }]
def classes : Array Class := #[k0, k1, k2, k3, k4, k5, k6, k7, k8, k9, k10, k11, k12, k13, k14, k15, k16, k17, k18, k19, k20, k21, k22, k23, k24, k25, k26, k27, k28, k29, k30, k31, k32, k33, k34, k35]
def interned : List (Array UInt16 × Addr) := []
def slotsUsed : Nat := 26
def theMethod : MethodId := ⟨1, 1⟩
def args0 : Array Value := #[.int 5, .int 7, .int 3, .int 4]
def aboutOver (below : List Frame) : State where
  vm := { classes := classes, interned := interned.toArray }
  heap := heap
  slotsUsed := slotsUsed
  threads := #[{ frames := .invoking theMethod args0 :: below }]
def below0 : List Frame := [.native { method := ⟨0, 0⟩, args := #[] }]
def about1 : State := aboutOver below0
def p0 : Program := .bare "" "" ""
def e0 : Env := launch0.env 0 0 0
theorem w_frames : about1.frames = Frame.invoking theMethod args0 :: below0 := rfl
set_option maxRecDepth 65536 in
theorem w_args : argsFit about1.vm theMethod args0 = true := by decide +kernel
set_option maxRecDepth 65536 in
theorem w_heap : heapFits about1 = true := by decide +kernel
set_option maxRecDepth 65536 in
theorem w_runnable : about1.curStatus? = some .runnable := by decide +kernel
set_option maxRecDepth 65536 in
theorem w_alone : about1.alone = true := by decide +kernel
set_option maxRecDepth 65536 in
theorem w_named : about1.methodNamed? x = some theMethod := by decide +kernel
set_option maxRecDepth 65536 in
theorem w_hears : about1.hears theMethod below0 = true := by decide +kernel
set_option maxRecDepth 65536 in
theorem w_ripe : about1.ripe theMethod args0 below0 = true := by decide +kernel
theorem w_running : about1.status = .running := rfl
set_option maxRecDepth 65536 in
theorem w_room : about1.hasRoom e0.platform room_1 = true :=
  launch0.hasRoom_least _ room_1 (by decide +kernel) (by decide +kernel) (by decide +kernel) (by decide +kernel) (by decide +kernel) (by decide +kernel)
theorem allAtoms_all (ts : List Jvm.Cond) (a : Array Jvm.Value) (st : Jvm.State) : (allAtoms ts).before a st = ts.all (fun c => c.before a st) := by
  induction ts with
  | nil => rfl
  | cons c t ih =>
    show (Jvm.Cond.and c (allAtoms t)).before a st = _
    rw [Jvm.Cond.before_and, ih, List.all_cons]
def words1 : List Jvm.Cond := Jvm.Cond.code x code maxLocals ret :: tables_1
/-- a 'code' word, met by the world's own term for the bytes: nothing is compared byte by byte -/
theorem code_word {y : MethodName} {bytes : ByteArray} {mx : Nat} {rt : Option FieldType} {a : Array Value} {s : State} {m : MethodId} {meth : Method} {c : Code} (h1 : s.methodNamed? y = some m) (h2 : s.vm.method? m = some meth) (h3 : meth.code = some c) (h4 : c.code = bytes)
    (h5 : (c.maxLocals == mx && c.exceptionTable.isEmpty && decide (c.maxStack ≤ mostOperands) && decide (meth.sig.returnType = rt) && !meth.locks && decide (parseMethodDescriptor y.desc = some meth.sig)) = true) : (Jvm.Cond.code y bytes mx rt).before a s = true := by
  simp only [Bool.and_eq_true, beq_iff_eq, Bool.not_eq_true', decide_eq_true_eq] at h5
  obtain ⟨⟨⟨⟨⟨g1, g2⟩, g3⟩, g4⟩, g5⟩, g6⟩ := h5
  simp [Cond.before, Cond.holds, Cond.value, h1, h2, h3, h4, g1, g2, g3, g4, g5, g6]
def isCode : Jvm.Cond → Bool
  | .code _ _ _ _ => true
  | _ => false
theorem all_split {L : List Jvm.Cond} {P : Jvm.Cond → Bool} (h1 : L.all (fun c => isCode c || P c) = true) (h2 : ∀ c ∈ L.filter isCode, P c = true) : L.all P = true := by
  refine List.all_eq_true.mpr fun c hc => ?_
  have h := List.all_eq_true.mp h1 c hc
  rcases Bool.eq_false_or_eq_true (isCode c) with hi | hi
  · exact h2 c (List.mem_filter.mpr ⟨hc, hi⟩)
  · simpa [hi] using h
set_option maxRecDepth 65536 in
theorem w_c0 : (Jvm.Cond.code x code maxLocals ret).before args0 about1 = true := code_word (m := ⟨1, 1⟩) (meth := k1m1) (c := k1c1) (by decide +kernel) rfl rfl rfl (by decide +kernel)
set_option maxRecDepth 65536 in
theorem w_c1 : (Jvm.Cond.code ({ cls := "java/lang/String", name := "valueOf", desc := "(C)Ljava/lang/String;" } : Jvm.MethodName) jdk_42_method_139_code (1 : Nat) (Option.some (Jvm.ClassFile.FieldType.object "java/lang/String"))).before args0 about1 = true := code_word (m := ⟨7, 3⟩) (meth := k7m3) (c := k7c3) (by decide +kernel) rfl rfl rfl (by decide +kernel)
set_option maxRecDepth 65536 in
theorem w_c2 : (Jvm.Cond.code ({ cls := "java/lang/StringLatin1", name := "canEncode", desc := "(C)Z" } : Jvm.MethodName) jdk_43_method_3_code (1 : Nat) (Option.some Jvm.ClassFile.FieldType.boolean)).before args0 about1 = true := code_word (m := ⟨8, 1⟩) (meth := k8m1) (c := k8c1) (by decide +kernel) rfl rfl rfl (by decide +kernel)
set_option maxRecDepth 65536 in
theorem w_c3 : (Jvm.Cond.code ({ cls := "java/lang/StringLatin1", name := "toBytes", desc := "(C)[B" } : Jvm.MethodName) jdk_43_method_46_code (1 : Nat) (Option.some (Jvm.ClassFile.FieldType.array Jvm.ClassFile.FieldType.byte))).before args0 about1 = true := code_word (m := ⟨8, 3⟩) (meth := k8m3) (c := k8c3) (by decide +kernel) rfl rfl rfl (by decide +kernel)
set_option maxRecDepth 65536 in
theorem w_c4 : (Jvm.Cond.code ({ cls := "java/lang/String", name := "<init>", desc := "([BB)V" } : Jvm.MethodName) jdk_42_method_151_code (3 : Nat) (Option.none : Option Jvm.ClassFile.FieldType)).before args0 about1 = true := code_word (m := ⟨7, 5⟩) (meth := k7m5) (c := k7c5) (by decide +kernel) rfl rfl rfl (by decide +kernel)
set_option maxRecDepth 65536 in
theorem w_c5 : (Jvm.Cond.code ({ cls := "java/lang/Object", name := "<init>", desc := "()V" } : Jvm.MethodName) object_method_1_code (1 : Nat) (Option.none : Option Jvm.ClassFile.FieldType)).before args0 about1 = true := code_word (m := ⟨0, 0⟩) (meth := k0m0) (c := k0c0) (by decide +kernel) rfl rfl rfl (by decide +kernel)
set_option maxRecDepth 65536 in
theorem w_c6 : (Jvm.Cond.code ({ cls := "java/lang/String", name := "<init>", desc := "([C)V" } : Jvm.MethodName) jdk_42_method_3_code (2 : Nat) (Option.none : Option Jvm.ClassFile.FieldType)).before args0 about1 = true := code_word (m := ⟨7, 1⟩) (meth := k7m1) (c := k7c1) (by decide +kernel) rfl rfl rfl (by decide +kernel)
set_option maxRecDepth 65536 in
theorem w_c7 : (Jvm.Cond.code ({ cls := "java/lang/String", name := "<init>", desc := "([CIILjava/lang/Void;)V" } : Jvm.MethodName) jdk_42_method_149_code (6 : Nat) (Option.none : Option Jvm.ClassFile.FieldType)).before args0 about1 = true := code_word (m := ⟨7, 4⟩) (meth := k7m4) (c := k7c4) (by decide +kernel) rfl rfl rfl (by decide +kernel)
set_option maxRecDepth 65536 in
theorem w_c8 : (Jvm.Cond.code ({ cls := "java/lang/StringUTF16", name := "compress", desc := "([CII)[B" } : Jvm.MethodName) jdk_52_method_16_code (6 : Nat) (Option.some (Jvm.ClassFile.FieldType.array Jvm.ClassFile.FieldType.byte))).before args0 about1 = true := code_word (m := ⟨9, 2⟩) (meth := k9m2) (c := k9c2) (by decide +kernel) rfl rfl rfl (by decide +kernel)
set_option maxRecDepth 65536 in
theorem w_c9 : (Jvm.Cond.code ({ cls := "java/lang/StringUTF16", name := "compress", desc := "([CI[BII)I" } : Jvm.MethodName) jdk_52_method_21_code (7 : Nat) (Option.some Jvm.ClassFile.FieldType.int)).before args0 about1 = true := code_word (m := ⟨9, 3⟩) (meth := k9m3) (c := k9c3) (by decide +kernel) rfl rfl rfl (by decide +kernel)
set_option maxRecDepth 65536 in
theorem w_c10 : (Jvm.Cond.code ({ cls := "java/lang/StringUTF16", name := "coderFromArrayLen", desc := "([BI)B" } : Jvm.MethodName) jdk_52_method_15_code (2 : Nat) (Option.some Jvm.ClassFile.FieldType.byte)).before args0 about1 = true := code_word (m := ⟨9, 1⟩) (meth := k9m1) (c := k9c1) (by decide +kernel) rfl rfl rfl (by decide +kernel)
set_option maxRecDepth 65536 in
theorem w_c11 : (Jvm.Cond.code ({ cls := "java/util/ArrayList", name := "<init>", desc := "()V" } : Jvm.MethodName) jdk_38_method_2_code (1 : Nat) (Option.none : Option Jvm.ClassFile.FieldType)).before args0 about1 = true := code_word (m := ⟨18, 0⟩) (meth := k18m0) (c := k18c0) (by decide +kernel) rfl rfl rfl (by decide +kernel)
set_option maxRecDepth 65536 in
theorem w_c12 : (Jvm.Cond.code ({ cls := "java/util/AbstractList", name := "<init>", desc := "()V" } : Jvm.MethodName) jdk_39_method_1_code (1 : Nat) (Option.none : Option Jvm.ClassFile.FieldType)).before args0 about1 = true := code_word (m := ⟨15, 0⟩) (meth := k15m0) (c := k15c0) (by decide +kernel) rfl rfl rfl (by decide +kernel)
set_option maxRecDepth 65536 in
theorem w_c13 : (Jvm.Cond.code ({ cls := "java/util/AbstractCollection", name := "<init>", desc := "()V" } : Jvm.MethodName) jdk_22_method_1_code (1 : Nat) (Option.none : Option Jvm.ClassFile.FieldType)).before args0 about1 = true := code_word (m := ⟨12, 0⟩) (meth := k12m0) (c := k12c0) (by decide +kernel) rfl rfl rfl (by decide +kernel)
set_option maxRecDepth 65536 in
theorem w_c14 : (Jvm.Cond.code ({ cls := "com/example/scatterkeep/scatterkeep/protocol/AccessPoint$Reply", name := "doneWithWarning", desc := "(Ljava/util/List;Ljava/lang/String;)Lcom/example/scatterkeep/scatterkeep/protocol/AccessPoint$Reply;" } : Jvm.MethodName) prog_49_method_3_code (2 : Nat) (Option.some (Jvm.ClassFile.FieldType.object "com/example/scatterkeep/scatterkeep/protocol/AccessPoint$Reply"))).before args0 about1 = true := code_word (m := ⟨19, 1⟩) (meth := k19m1) (c := k19c1) (by decide +kernel) rfl rfl rfl (by decide +kernel)
set_option maxRecDepth 65536 in
theorem w_c15 : (Jvm.Cond.code ({ cls := "java/util/List", name := "of", desc := "(Ljava/lang/Object;)Ljava/util/List;" } : Jvm.MethodName) jdk_40_method_37_code (1 : Nat) (Option.some (Jvm.ClassFile.FieldType.object "java/util/List"))).before args0 about1 = true := code_word (m := ⟨14, 3⟩) (meth := k14m3) (c := k14c3) (by decide +kernel) rfl rfl rfl (by decide +kernel)
set_option maxRecDepth 65536 in
theorem w_c16 : (Jvm.Cond.code ({ cls := "java/util/ImmutableCollections$List12", name := "<init>", desc := "(Ljava/lang/Object;)V" } : Jvm.MethodName) jdk_44_method_1_code (2 : Nat) (Option.none : Option Jvm.ClassFile.FieldType)).before args0 about1 = true := code_word (m := ⟨22, 0⟩) (meth := k22m0) (c := k22c0) (by decide +kernel) rfl rfl rfl (by decide +kernel)
set_option maxRecDepth 65536 in
theorem w_c17 : (Jvm.Cond.code ({ cls := "java/util/ImmutableCollections$AbstractImmutableList", name := "<init>", desc := "()V" } : Jvm.MethodName) jdk_46_method_1_code (1 : Nat) (Option.none : Option Jvm.ClassFile.FieldType)).before args0 about1 = true := code_word (m := ⟨21, 0⟩) (meth := k21m0) (c := k21c0) (by decide +kernel) rfl rfl rfl (by decide +kernel)
set_option maxRecDepth 65536 in
theorem w_c18 : (Jvm.Cond.code ({ cls := "java/util/ImmutableCollections$AbstractImmutableCollection", name := "<init>", desc := "()V" } : Jvm.MethodName) jdk_47_method_1_code (1 : Nat) (Option.none : Option Jvm.ClassFile.FieldType)).before args0 about1 = true := code_word (m := ⟨20, 0⟩) (meth := k20m0) (c := k20c0) (by decide +kernel) rfl rfl rfl (by decide +kernel)
set_option maxRecDepth 65536 in
theorem w_c19 : (Jvm.Cond.code ({ cls := "java/util/Objects", name := "requireNonNull", desc := "(Ljava/lang/Object;)Ljava/lang/Object;" } : Jvm.MethodName) jdk_31_method_10_code (1 : Nat) (Option.some (Jvm.ClassFile.FieldType.object "java/lang/Object"))).before args0 about1 = true := code_word (m := ⟨23, 1⟩) (meth := k23m1) (c := k23c1) (by decide +kernel) rfl rfl rfl (by decide +kernel)
set_option maxRecDepth 65536 in
theorem w_c20 : (Jvm.Cond.code ({ cls := "com/example/scatterkeep/scatterkeep/protocol/AccessPoint$Reply", name := "<init>", desc := "(ILjava/util/List;Ljava/util/List;)V" } : Jvm.MethodName) prog_49_method_1_code (4 : Nat) (Option.none : Option Jvm.ClassFile.FieldType)).before args0 about1 = true := code_word (m := ⟨19, 0⟩) (meth := k19m0) (c := k19c0) (by decide +kernel) rfl rfl rfl (by decide +kernel)
set_option maxRecDepth 65536 in
theorem w_c21 : (Jvm.Cond.code ({ cls := "com/example/scatterkeep/scatterkeep/protocol/AccessPoint$Reply", name := "getStatus", desc := "()I" } : Jvm.MethodName) prog_49_method_7_code (1 : Nat) (Option.some Jvm.ClassFile.FieldType.int)).before args0 about1 = true := code_word (m := ⟨19, 2⟩) (meth := k19m2) (c := k19c2) (by decide +kernel) rfl rfl rfl (by decide +kernel)
set_option maxRecDepth 65536 in
theorem w_c22 : (Jvm.Cond.code ({ cls := "com/example/scatterkeep/scatterkeep/protocol/AccessPoint$Reply", name := "getErr", desc := "()Ljava/util/List;" } : Jvm.MethodName) prog_49_method_9_code (1 : Nat) (Option.some (Jvm.ClassFile.FieldType.object "java/util/List"))).before args0 about1 = true := code_word (m := ⟨19, 4⟩) (meth := k19m4) (c := k19c4) (by decide +kernel) rfl rfl rfl (by decide +kernel)
set_option maxRecDepth 65536 in
theorem w_c23 : (Jvm.Cond.code ({ cls := "java/util/ImmutableCollections$List12", name := "size", desc := "()I" } : Jvm.MethodName) jdk_44_method_3_code (1 : Nat) (Option.some Jvm.ClassFile.FieldType.int)).before args0 about1 = true := code_word (m := ⟨22, 1⟩) (meth := k22m1) (c := k22c1) (by decide +kernel) rfl rfl rfl (by decide +kernel)
set_option maxRecDepth 65536 in
theorem w_c24 : (Jvm.Cond.code ({ cls := "java/util/ImmutableCollections$List12", name := "get", desc := "(I)Ljava/lang/Object;" } : Jvm.MethodName) jdk_44_method_5_code (2 : Nat) (Option.some (Jvm.ClassFile.FieldType.object "java/lang/Object"))).before args0 about1 = true := code_word (m := ⟨22, 2⟩) (meth := k22m2) (c := k22c2) (by decide +kernel) rfl rfl rfl (by decide +kernel)
set_option maxRecDepth 65536 in
theorem w_c25 : (Jvm.Cond.code ({ cls := "java/lang/String", name := "equals", desc := "(Ljava/lang/Object;)Z" } : Jvm.MethodName) jdk_42_method_66_code (3 : Nat) (Option.some Jvm.ClassFile.FieldType.boolean)).before args0 about1 = true := code_word (m := ⟨7, 2⟩) (meth := k7m2) (c := k7c2) (by decide +kernel) rfl rfl rfl (by decide +kernel)
set_option maxRecDepth 65536 in
theorem w_c26 : (Jvm.Cond.code ({ cls := "java/lang/StringLatin1", name := "equals", desc := "([B[B)Z" } : Jvm.MethodName) jdk_43_method_13_code (3 : Nat) (Option.some Jvm.ClassFile.FieldType.boolean)).before args0 about1 = true := code_word (m := ⟨8, 2⟩) (meth := k8m2) (c := k8c2) (by decide +kernel) rfl rfl rfl (by decide +kernel)
set_option maxRecDepth 65536 in
theorem w_c27 : (Jvm.Cond.code ({ cls := "com/example/scatterkeep/scatterkeep/protocol/AccessPoint$Reply", name := "getOut", desc := "()Ljava/util/List;" } : Jvm.MethodName) prog_49_method_8_code (1 : Nat) (Option.some (Jvm.ClassFile.FieldType.object "java/util/List"))).before args0 about1 = true := code_word (m := ⟨19, 3⟩) (meth := k19m3) (c := k19c3) (by decide +kernel) rfl rfl rfl (by decide +kernel)
set_option maxRecDepth 65536 in
theorem w_c28 : (Jvm.Cond.code ({ cls := "java/util/ArrayList", name := "size", desc := "()I" } : Jvm.MethodName) jdk_38_method_8_code (1 : Nat) (Option.some Jvm.ClassFile.FieldType.int)).before args0 about1 = true := code_word (m := ⟨18, 3⟩) (meth := k18m3) (c := k18c3) (by decide +kernel) rfl rfl rfl (by decide +kernel)
set_option maxRecDepth 65536 in
theorem w_c29 : (Jvm.Cond.code ({ cls := "java/util/ArrayList", name := "add", desc := "(Ljava/lang/Object;)Z" } : Jvm.MethodName) jdk_38_method_25_code (2 : Nat) (Option.some Jvm.ClassFile.FieldType.boolean)).before args0 about1 = true := code_word (m := ⟨18, 7⟩) (meth := k18m7) (c := k18c7) (by decide +kernel) rfl rfl rfl (by decide +kernel)
set_option maxRecDepth 65536 in
theorem w_c30 : (Jvm.Cond.code ({ cls := "java/util/ArrayList", name := "add", desc := "(Ljava/lang/Object;[Ljava/lang/Object;I)V" } : Jvm.MethodName) jdk_38_method_24_code (4 : Nat) (Option.none : Option Jvm.ClassFile.FieldType)).before args0 about1 = true := code_word (m := ⟨18, 6⟩) (meth := k18m6) (c := k18c6) (by decide +kernel) rfl rfl rfl (by decide +kernel)
set_option maxRecDepth 65536 in
theorem w_c31 : (Jvm.Cond.code ({ cls := "java/util/ArrayList", name := "grow", desc := "()[Ljava/lang/Object;" } : Jvm.MethodName) jdk_38_method_7_code (1 : Nat) (Option.some (Jvm.ClassFile.FieldType.array (Jvm.ClassFile.FieldType.object "java/lang/Object")))).before args0 about1 = true := code_word (m := ⟨18, 2⟩) (meth := k18m2) (c := k18c2) (by decide +kernel) rfl rfl rfl (by decide +kernel)
set_option maxRecDepth 65536 in
theorem w_c32 : (Jvm.Cond.code ({ cls := "java/util/ArrayList", name := "grow", desc := "(I)[Ljava/lang/Object;" } : Jvm.MethodName) jdk_38_method_6_code (4 : Nat) (Option.some (Jvm.ClassFile.FieldType.array (Jvm.ClassFile.FieldType.object "java/lang/Object")))).before args0 about1 = true := code_word (m := ⟨18, 1⟩) (meth := k18m1) (c := k18c1) (by decide +kernel) rfl rfl rfl (by decide +kernel)
set_option maxRecDepth 65536 in
theorem w_c33 : (Jvm.Cond.code ({ cls := "java/lang/Math", name := "max", desc := "(II)I" } : Jvm.MethodName) jdk_29_method_65_code (2 : Nat) (Option.some Jvm.ClassFile.FieldType.int)).before args0 about1 = true := code_word (m := ⟨25, 1⟩) (meth := k25m1) (c := k25c1) (by decide +kernel) rfl rfl rfl (by decide +kernel)
set_option maxRecDepth 65536 in
theorem w_c34 : (Jvm.Cond.code ({ cls := "java/util/ArrayList", name := "get", desc := "(I)Ljava/lang/Object;" } : Jvm.MethodName) jdk_38_method_20_code (2 : Nat) (Option.some (Jvm.ClassFile.FieldType.object "java/lang/Object"))).before args0 about1 = true := code_word (m := ⟨18, 5⟩) (meth := k18m5) (c := k18c5) (by decide +kernel) rfl rfl rfl (by decide +kernel)
set_option maxRecDepth 65536 in
theorem w_c35 : (Jvm.Cond.code ({ cls := "java/util/Objects", name := "checkIndex", desc := "(II)I" } : Jvm.MethodName) jdk_31_method_17_code (2 : Nat) (Option.some Jvm.ClassFile.FieldType.int)).before args0 about1 = true := code_word (m := ⟨23, 2⟩) (meth := k23m2) (c := k23c2) (by decide +kernel) rfl rfl rfl (by decide +kernel)
set_option maxRecDepth 65536 in
theorem w_c36 : (Jvm.Cond.code ({ cls := "jdk/internal/util/Preconditions", name := "checkIndex", desc := "(IILjava/util/function/BiFunction;)I" } : Jvm.MethodName) jdk_41_method_11_code (3 : Nat) (Option.some Jvm.ClassFile.FieldType.int)).before args0 about1 = true := code_word (m := ⟨26, 1⟩) (meth := k26m1) (c := k26c1) (by decide +kernel) rfl rfl rfl (by decide +kernel)
set_option maxRecDepth 65536 in
theorem w_c37 : (Jvm.Cond.code ({ cls := "java/util/ArrayList", name := "elementData", desc := "(I)Ljava/lang/Object;" } : Jvm.MethodName) jdk_38_method_18_code (2 : Nat) (Option.some (Jvm.ClassFile.FieldType.object "java/lang/Object"))).before args0 about1 = true := code_word (m := ⟨18, 4⟩) (meth := k18m4) (c := k18c4) (by decide +kernel) rfl rfl rfl (by decide +kernel)
def codes1 : List Jvm.Cond := [Jvm.Cond.code x code maxLocals ret, Jvm.Cond.code ({ cls := "java/lang/String", name := "valueOf", desc := "(C)Ljava/lang/String;" } : Jvm.MethodName) jdk_42_method_139_code (1 : Nat) (Option.some (Jvm.ClassFile.FieldType.object "java/lang/String")), Jvm.Cond.code ({ cls := "java/lang/StringLatin1", name := "canEncode", desc := "(C)Z" } : Jvm.MethodName) jdk_43_method_3_code (1 : Nat) (Option.some Jvm.ClassFile.FieldType.boolean), Jvm.Cond.code ({ cls := "java/lang/StringLatin1", name := "toBytes", desc := "(C)[B" } : Jvm.MethodName) jdk_43_method_46_code (1 : Nat) (Option.some (Jvm.ClassFile.FieldType.array Jvm.ClassFile.FieldType.byte)), Jvm.Cond.code ({ cls := "java/lang/String", name := "<init>", desc := "([BB)V" } : Jvm.MethodName) jdk_42_method_151_code (3 : Nat) (Option.none : Option Jvm.ClassFile.FieldType), Jvm.Cond.code ({ cls := "java/lang/Object", name := "<init>", desc := "()V" } : Jvm.MethodName) object_method_1_code (1 : Nat) (Option.none : Option Jvm.ClassFile.FieldType), Jvm.Cond.code ({ cls := "java/lang/String", name := "<init>", desc := "([C)V" } : Jvm.MethodName) jdk_42_method_3_code (2 : Nat) (Option.none : Option Jvm.ClassFile.FieldType), Jvm.Cond.code ({ cls := "java/lang/String", name := "<init>", desc := "([CIILjava/lang/Void;)V" } : Jvm.MethodName) jdk_42_method_149_code (6 : Nat) (Option.none : Option Jvm.ClassFile.FieldType), Jvm.Cond.code ({ cls := "java/lang/StringUTF16", name := "compress", desc := "([CII)[B" } : Jvm.MethodName) jdk_52_method_16_code (6 : Nat) (Option.some (Jvm.ClassFile.FieldType.array Jvm.ClassFile.FieldType.byte)), Jvm.Cond.code ({ cls := "java/lang/StringUTF16", name := "compress", desc := "([CI[BII)I" } : Jvm.MethodName) jdk_52_method_21_code (7 : Nat) (Option.some Jvm.ClassFile.FieldType.int), Jvm.Cond.code ({ cls := "java/lang/StringUTF16", name := "coderFromArrayLen", desc := "([BI)B" } : Jvm.MethodName) jdk_52_method_15_code (2 : Nat) (Option.some Jvm.ClassFile.FieldType.byte), Jvm.Cond.code ({ cls := "java/util/ArrayList", name := "<init>", desc := "()V" } : Jvm.MethodName) jdk_38_method_2_code (1 : Nat) (Option.none : Option Jvm.ClassFile.FieldType), Jvm.Cond.code ({ cls := "java/util/AbstractList", name := "<init>", desc := "()V" } : Jvm.MethodName) jdk_39_method_1_code (1 : Nat) (Option.none : Option Jvm.ClassFile.FieldType), Jvm.Cond.code ({ cls := "java/util/AbstractCollection", name := "<init>", desc := "()V" } : Jvm.MethodName) jdk_22_method_1_code (1 : Nat) (Option.none : Option Jvm.ClassFile.FieldType), Jvm.Cond.code ({ cls := "com/example/scatterkeep/scatterkeep/protocol/AccessPoint$Reply", name := "doneWithWarning", desc := "(Ljava/util/List;Ljava/lang/String;)Lcom/example/scatterkeep/scatterkeep/protocol/AccessPoint$Reply;" } : Jvm.MethodName) prog_49_method_3_code (2 : Nat) (Option.some (Jvm.ClassFile.FieldType.object "com/example/scatterkeep/scatterkeep/protocol/AccessPoint$Reply")), Jvm.Cond.code ({ cls := "java/util/List", name := "of", desc := "(Ljava/lang/Object;)Ljava/util/List;" } : Jvm.MethodName) jdk_40_method_37_code (1 : Nat) (Option.some (Jvm.ClassFile.FieldType.object "java/util/List")), Jvm.Cond.code ({ cls := "java/util/ImmutableCollections$List12", name := "<init>", desc := "(Ljava/lang/Object;)V" } : Jvm.MethodName) jdk_44_method_1_code (2 : Nat) (Option.none : Option Jvm.ClassFile.FieldType), Jvm.Cond.code ({ cls := "java/util/ImmutableCollections$AbstractImmutableList", name := "<init>", desc := "()V" } : Jvm.MethodName) jdk_46_method_1_code (1 : Nat) (Option.none : Option Jvm.ClassFile.FieldType), Jvm.Cond.code ({ cls := "java/util/ImmutableCollections$AbstractImmutableCollection", name := "<init>", desc := "()V" } : Jvm.MethodName) jdk_47_method_1_code (1 : Nat) (Option.none : Option Jvm.ClassFile.FieldType), Jvm.Cond.code ({ cls := "java/util/Objects", name := "requireNonNull", desc := "(Ljava/lang/Object;)Ljava/lang/Object;" } : Jvm.MethodName) jdk_31_method_10_code (1 : Nat) (Option.some (Jvm.ClassFile.FieldType.object "java/lang/Object")), Jvm.Cond.code ({ cls := "com/example/scatterkeep/scatterkeep/protocol/AccessPoint$Reply", name := "<init>", desc := "(ILjava/util/List;Ljava/util/List;)V" } : Jvm.MethodName) prog_49_method_1_code (4 : Nat) (Option.none : Option Jvm.ClassFile.FieldType), Jvm.Cond.code ({ cls := "com/example/scatterkeep/scatterkeep/protocol/AccessPoint$Reply", name := "getStatus", desc := "()I" } : Jvm.MethodName) prog_49_method_7_code (1 : Nat) (Option.some Jvm.ClassFile.FieldType.int), Jvm.Cond.code ({ cls := "com/example/scatterkeep/scatterkeep/protocol/AccessPoint$Reply", name := "getErr", desc := "()Ljava/util/List;" } : Jvm.MethodName) prog_49_method_9_code (1 : Nat) (Option.some (Jvm.ClassFile.FieldType.object "java/util/List")), Jvm.Cond.code ({ cls := "java/util/ImmutableCollections$List12", name := "size", desc := "()I" } : Jvm.MethodName) jdk_44_method_3_code (1 : Nat) (Option.some Jvm.ClassFile.FieldType.int), Jvm.Cond.code ({ cls := "java/util/ImmutableCollections$List12", name := "get", desc := "(I)Ljava/lang/Object;" } : Jvm.MethodName) jdk_44_method_5_code (2 : Nat) (Option.some (Jvm.ClassFile.FieldType.object "java/lang/Object")), Jvm.Cond.code ({ cls := "java/lang/String", name := "equals", desc := "(Ljava/lang/Object;)Z" } : Jvm.MethodName) jdk_42_method_66_code (3 : Nat) (Option.some Jvm.ClassFile.FieldType.boolean), Jvm.Cond.code ({ cls := "java/lang/StringLatin1", name := "equals", desc := "([B[B)Z" } : Jvm.MethodName) jdk_43_method_13_code (3 : Nat) (Option.some Jvm.ClassFile.FieldType.boolean), Jvm.Cond.code ({ cls := "com/example/scatterkeep/scatterkeep/protocol/AccessPoint$Reply", name := "getOut", desc := "()Ljava/util/List;" } : Jvm.MethodName) prog_49_method_8_code (1 : Nat) (Option.some (Jvm.ClassFile.FieldType.object "java/util/List")), Jvm.Cond.code ({ cls := "java/util/ArrayList", name := "size", desc := "()I" } : Jvm.MethodName) jdk_38_method_8_code (1 : Nat) (Option.some Jvm.ClassFile.FieldType.int), Jvm.Cond.code ({ cls := "java/util/ArrayList", name := "add", desc := "(Ljava/lang/Object;)Z" } : Jvm.MethodName) jdk_38_method_25_code (2 : Nat) (Option.some Jvm.ClassFile.FieldType.boolean), Jvm.Cond.code ({ cls := "java/util/ArrayList", name := "add", desc := "(Ljava/lang/Object;[Ljava/lang/Object;I)V" } : Jvm.MethodName) jdk_38_method_24_code (4 : Nat) (Option.none : Option Jvm.ClassFile.FieldType), Jvm.Cond.code ({ cls := "java/util/ArrayList", name := "grow", desc := "()[Ljava/lang/Object;" } : Jvm.MethodName) jdk_38_method_7_code (1 : Nat) (Option.some (Jvm.ClassFile.FieldType.array (Jvm.ClassFile.FieldType.object "java/lang/Object"))), Jvm.Cond.code ({ cls := "java/util/ArrayList", name := "grow", desc := "(I)[Ljava/lang/Object;" } : Jvm.MethodName) jdk_38_method_6_code (4 : Nat) (Option.some (Jvm.ClassFile.FieldType.array (Jvm.ClassFile.FieldType.object "java/lang/Object"))), Jvm.Cond.code ({ cls := "java/lang/Math", name := "max", desc := "(II)I" } : Jvm.MethodName) jdk_29_method_65_code (2 : Nat) (Option.some Jvm.ClassFile.FieldType.int), Jvm.Cond.code ({ cls := "java/util/ArrayList", name := "get", desc := "(I)Ljava/lang/Object;" } : Jvm.MethodName) jdk_38_method_20_code (2 : Nat) (Option.some (Jvm.ClassFile.FieldType.object "java/lang/Object")), Jvm.Cond.code ({ cls := "java/util/Objects", name := "checkIndex", desc := "(II)I" } : Jvm.MethodName) jdk_31_method_17_code (2 : Nat) (Option.some Jvm.ClassFile.FieldType.int), Jvm.Cond.code ({ cls := "jdk/internal/util/Preconditions", name := "checkIndex", desc := "(IILjava/util/function/BiFunction;)I" } : Jvm.MethodName) jdk_41_method_11_code (3 : Nat) (Option.some Jvm.ClassFile.FieldType.int), Jvm.Cond.code ({ cls := "java/util/ArrayList", name := "elementData", desc := "(I)Ljava/lang/Object;" } : Jvm.MethodName) jdk_38_method_18_code (2 : Nat) (Option.some (Jvm.ClassFile.FieldType.object "java/lang/Object"))]
set_option maxRecDepth 65536 in
theorem codes_eq : words1.filter isCode = codes1 := rfl
theorem w_codes : ∀ c ∈ words1.filter isCode, c.before args0 about1 = true := by
  rw [codes_eq]
  intro c hc
  simp only [codes1, List.mem_cons, List.not_mem_nil, or_false] at hc
  rcases hc with rfl | rfl | rfl | rfl | rfl | rfl | rfl | rfl | rfl | rfl | rfl | rfl | rfl | rfl | rfl | rfl | rfl | rfl | rfl | rfl | rfl | rfl | rfl | rfl | rfl | rfl | rfl | rfl | rfl | rfl | rfl | rfl | rfl | rfl | rfl | rfl | rfl | rfl
  · exact w_c0
  · exact w_c1
  · exact w_c2
  · exact w_c3
  · exact w_c4
  · exact w_c5
  · exact w_c6
  · exact w_c7
  · exact w_c8
  · exact w_c9
  · exact w_c10
  · exact w_c11
  · exact w_c12
  · exact w_c13
  · exact w_c14
  · exact w_c15
  · exact w_c16
  · exact w_c17
  · exact w_c18
  · exact w_c19
  · exact w_c20
  · exact w_c21
  · exact w_c22
  · exact w_c23
  · exact w_c24
  · exact w_c25
  · exact w_c26
  · exact w_c27
  · exact w_c28
  · exact w_c29
  · exact w_c30
  · exact w_c31
  · exact w_c32
  · exact w_c33
  · exact w_c34
  · exact w_c35
  · exact w_c36
  · exact w_c37
set_option maxRecDepth 65536 in
theorem w_t1 : (words1.take 24).all (fun c => isCode c || c.before args0 about1) = true := by decide +kernel
set_option maxRecDepth 65536 in
theorem w_t2 : ((words1.drop 24).take 24).all (fun c => isCode c || c.before args0 about1) = true := by decide +kernel
set_option maxRecDepth 65536 in
theorem w_t3 : (((words1.drop 24).drop 24).take 24).all (fun c => isCode c || c.before args0 about1) = true := by decide +kernel
set_option maxRecDepth 65536 in
theorem w_t4 : ((((words1.drop 24).drop 24).drop 24).take 24).all (fun c => isCode c || c.before args0 about1) = true := by decide +kernel
set_option maxRecDepth 65536 in
theorem w_t5 : (((((words1.drop 24).drop 24).drop 24).drop 24).take 24).all (fun c => isCode c || c.before args0 about1) = true := by decide +kernel
set_option maxRecDepth 65536 in
theorem w_t6 : ((((((words1.drop 24).drop 24).drop 24).drop 24).drop 24).take 24).all (fun c => isCode c || c.before args0 about1) = true := by decide +kernel
set_option maxRecDepth 65536 in
theorem w_t7 : (((((((words1.drop 24).drop 24).drop 24).drop 24).drop 24).drop 24).take 24).all (fun c => isCode c || c.before args0 about1) = true := by decide +kernel
set_option maxRecDepth 65536 in
theorem w_t8 : ((((((((words1.drop 24).drop 24).drop 24).drop 24).drop 24).drop 24).drop 24).take 24).all (fun c => isCode c || c.before args0 about1) = true := by decide +kernel
set_option maxRecDepth 65536 in
theorem w_t9 : (((((((((words1.drop 24).drop 24).drop 24).drop 24).drop 24).drop 24).drop 24).drop 24).take 24).all (fun c => isCode c || c.before args0 about1) = true := by decide +kernel
set_option maxRecDepth 65536 in
theorem w_t10 : (((((((((words1.drop 24).drop 24).drop 24).drop 24).drop 24).drop 24).drop 24).drop 24).drop 24).all (fun c => isCode c || c.before args0 about1) = true := by decide +kernel
theorem w_tables : (allAtoms (Jvm.Cond.code x code maxLocals ret :: tables_1)).before args0 about1 = true := by
  rw [allAtoms_all]
  show words1.all (fun c => c.before args0 about1) = true
  refine all_split ?_ w_codes
  rw [← List.take_append_drop 24 words1, List.all_append, w_t1, ← List.take_append_drop 24 (words1.drop 24), List.all_append, w_t2, ← List.take_append_drop 24 ((words1.drop 24).drop 24), List.all_append, w_t3, ← List.take_append_drop 24 (((words1.drop 24).drop 24).drop 24), List.all_append, w_t4, ← List.take_append_drop 24 ((((words1.drop 24).drop 24).drop 24).drop 24), List.all_append, w_t5, ← List.take_append_drop 24 (((((words1.drop 24).drop 24).drop 24).drop 24).drop 24), List.all_append, w_t6, ← List.take_append_drop 24 ((((((words1.drop 24).drop 24).drop 24).drop 24).drop 24).drop 24), List.all_append, w_t7, ← List.take_append_drop 24 (((((((words1.drop 24).drop 24).drop 24).drop 24).drop 24).drop 24).drop 24), List.all_append, w_t8, ← List.take_append_drop 24 ((((((((words1.drop 24).drop 24).drop 24).drop 24).drop 24).drop 24).drop 24).drop 24), List.all_append, w_t9, w_t10]
  rfl
set_option maxRecDepth 65536 in
theorem w_rest : rest_1_c.before args0 about1 = true := by decide +kernel
set_option maxRecDepth 65536 in
theorem w_case : (Jvm.Cond.and given_1 narrow_1).before args0 about1 = true := by decide +kernel
set_option maxRecDepth 65536 in
theorem w_consts : constsHeld consts_1 about1 := Jvm.Lit.constsHeldB_iff.mp (by decide +kernel)
theorem w_applies : (headSpec (Jvm.Cond.code x code maxLocals ret :: tables_1) room_1).applies x e0.platform about1 = true :=
  (Spec.applies_iff w_frames).mpr ⟨w_running, w_runnable, w_alone, w_named, w_hears, w_ripe, w_room, w_tables⟩
theorem atStart : AtStart classFile x code maxLocals ret World_1 tables_1 room_1 Calls_1 rest_1 Pre_1 launch0 p0 e0 about1 theMethod args0 below0 :=
  ⟨lists_1, trivial, launch0.admits_env _ _ _, launch0.least_env, fairChoices_fair.cas, fairChoices_fair.clock, w_frames, w_args, w_heap, w_applies, ⟨w_consts, trivial⟩, w_rest, w_case⟩
end start1
theorem witness_1 : WitnessClaimed_1 := ⟨start1.p0, start1.e0, start1.about1, start1.theMethod, start1.args0, start1.below0, start1.atStart⟩
end Jvm.Pilot.@@N@@
