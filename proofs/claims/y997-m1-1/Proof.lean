import JvmDerived
import JvmDerived.Pilot.@@N@@Statement
import JvmDerived.Pilot.@@N@@Code
set_option linter.unusedVariables false
set_option linter.unusedSimpArgs false
namespace Jvm.Pilot.@@N@@
open Jvm Jvm.ClassFile Sem Op Lib Jvm.Free Jvm.Stand Jvm.LawKit Jvm.RoadKit Bundle Jvm.Pilot.@@N@@.Jvm.D
abbrev own_Go (tb : Tables) (e : Env) (below : List Frame) (P : State → Outcome → Prop) (st : State) : Prop := ∃ U o, Steps tb e below st U ∧ P U o
theorem own_go {tb : Tables} {e : Env} {below : List Frame} {P : State → Outcome → Prop} {st st' : State} (h : ∀ t, Steps tb e below st' t → Steps tb e below st t) (k : own_Go tb e below P st') : own_Go tb e below P st := by
  obtain ⟨U, o, h1, h2⟩ := k; exact ⟨U, o, h _ h1, h2⟩
theorem own_hw {a0 : Array Value} {Z : State} {d : Jvm.Cond} (hw : ∀ d ∈ tables_1, d.before a0 Z = true) (i : Nat) (h : tables_1[i]? = some d := by rfl) : d.before a0 Z = true := hw _ (List.mem_of_getElem? h)
theorem own_ne {a b : Nat} (h : a < b ∨ b < a) : a ≠ b := by omega
theorem own_cat {v : Value} (h : v.isRef = true) : v.category = 1 := by rcases ref_cases h with rfl | ⟨a, rfl⟩ <;> rfl
theorem own_nar_ref {t : FieldType} {v : Value} (h : v.isRef = true) : narrow t v = v := by rcases ref_cases h with rfl | ⟨a, rfl⟩ <;> cases t <;> rfl
theorem own_fit_ref {t : FieldType} {v : Value} (h : v.isRef = true) (ht : t.isReference = true := by rfl) : fits t v = true := by rcases ref_cases h with rfl | ⟨a, rfl⟩ <;> cases t <;> first | rfl | (cases ht)
theorem own_widen {p : Program} {l : Launch} {e : Env} {R : Room} {s : State} {m : MethodId} {args : Array Value} {below : List Frame} {meth : Method} {c : Code} {T : State} {locs : List Loc} {cells slots cells' slots' : Nat} (X : Stand p l e R s m args below meth c T locs cells slots) (h1 : cells ≤ cells') (h2 : slots ≤ slots') : Stand p l e R s m args below meth c T locs cells' slots' :=
  { X with same := X.same.mono h1 h2 }
theorem own_sel_priv {s : State} {args : Array Value} {y : MethodName} {n : Nat} (wi : (Jvm.Cond.instantiable y.cls n).before args s = true) (hp : s.PrivateAt y) (hinst : (Jvm.Cond.instanceMethod y).before args s = true) (hy : y.cls ≠ "java/lang/invoke/MethodHandle" ∧ y.cls ≠ "java/lang/invoke/VarHandle") : (Jvm.Cond.selects y.cls y y).before args s = true := by
  obtain ⟨c, k, h1, h2, -, h4, -⟩ := Cond.instantiable_spec wi
  exact selects_self_of_private h1 h2 (Bool.or_eq_false_iff.mp h4).1 hp hinst hy
theorem own_NS_root {Z : State} {a0 : Array Value} {O K : String} {n : Nat} (w : (Cond.noSuperclass O).before a0 Z = true) (wk : (Cond.instantiable K n).before a0 Z = true) (hn : O ≠ K) : NS Z O K := by
  obtain ⟨c, k, h1, h2, h3, -, -⟩ := Cond.noSuperclass_spec w
  obtain ⟨t, -, g1, -⟩ := Cond.instantiable_spec wk
  have ne := ids_ne h1 g1 hn
  refine ⟨c, t, h1, g1, fun fuel => ?_⟩
  cases fuel with
  | zero => rfl
  | succ f => simp [Vm.isSubclassAux, ne, h2, h3]
theorem own_NS_no {Z : State} {a0 : Array Value} {C S K : String} {n : Nat} (w : (Cond.superclass C S).before a0 Z = true) (wk : (Cond.instantiable K n).before a0 Z = true) (m : NS Z C K) (hn : C ≠ K) : ∃ c t, Z.vm.findClass C = some c ∧ Z.vm.findClass K = some t ∧ Z.vm.assignable c t = false := by
  obtain ⟨c, t, h0, g0, n3⟩ := m
  obtain ⟨p, k, kp, h1, h2, h3, h4, h5, -, h7⟩ := Cond.superclass_spec h0 w
  obtain ⟨t', k', q1, g2, g5, g6, -, -⟩ := Cond.instantiable_spec wk
  cases g0.symm.trans q1
  have g7 : k'.isInterface = false := (Bool.or_eq_false_iff.mp g6).1
  have ne := ids_ne h0 g0 hn
  refine ⟨c, t, h0, g0, ?_⟩
  show Z.vm.assignableAux (255 + 1) c t = false
  simp [Vm.assignableAux, ne, h2, g2, h5, g5, g7, Vm.isSubclass, n3]
theorem own_sta_keep {Z : State} {h h' : Heap} {ws : List Addr} {C n d : String} {v : Value} (F : Sta Z h C n d v) (K : Keep h h' ws) (q : ∀ x ∈ ws, ∀ c : Cell, h[x]? = some c → c.vm.isStatics = false) : Sta Z h' C n d v := by
  obtain ⟨cf, i, k, f, st, cell, h1, h2, h3, h4, h5, h6, h7⟩ := F
  exact ⟨cf, i, k, f, st, cell, h1, h2, h3, h4, K.2.1 st cell h5 (fun z => by rw [q st z cell h5] at h6; cases h6), h6, h7⟩
theorem own_pl_exa {Z : State} {h : Heap} {a : Addr} {C : String} (F : Exa Z h a C) : ∀ c : Cell, h[a]? = some c → c.vm.isStatics = false := fun c hc => by
  obtain ⟨c1, k, h1, -, -, h4, -⟩ := F; cases h1.symm.trans hc; exact h4
theorem own_pl_fld {Z : State} {h : Heap} {a : Addr} {C n d : String} {v : Value} (F : Fld Z h a C n d v) : ∀ c : Cell, h[a]? = some c → c.vm.isStatics = false := old_plain F
theorem own_pl_arv {Z : State} {h : Heap} {a : Addr} {k : ClassId} {ty : FieldType} {n : Int32} {vs : List Value} {d : Value} (F : Arv Z h a k ty n vs d) : ∀ c : Cell, h[a]? = some c → c.vm.isStatics = false := fun c hc => by
  obtain ⟨c1, A, -⟩ := F; cases A.1.symm.trans hc; exact A.plain
theorem own_fld {args : Array Value} {s : State} {t : Term} {C n d : String} {a : Addr} {k : Int32} (ev : t.eval args s none [] s = some (.ref a)) (h : (Jvm.Cond.eq (.field t C n d) (.int k)).value args s none s [] = some true) : Fld s s.heap a C n d (.int k) := by
  obtain ⟨x, y, e1, e2, -, k2⟩ := cmp_v (Or.inl h)
  obtain rfl : Value.int k = y := Option.some.inj e2
  obtain ⟨z, rfl⟩ := k2
  have q : z = k := by
    simp only [Cond.value] at h
    rw [e1, e2] at h
    simpa using h
  subst q
  rw [fld_at ev] at e1
  exact Fld.start e1
theorem own_len {args : Array Value} {s : State} {t : Term} {a : Addr} {cl : Cell} {n : Int32} (ev : t.eval args s none [] s = some (.ref a)) (hc : s.heap[a]? = some cl) (h : (Jvm.Cond.eq (.length t) (.int n)).value args s none s [] = some true) : cl.slots.size < 2 ^ 31 ∧ cl.slots.size.toInt32 = n := by
  obtain ⟨x, y, e1, e2, -, -⟩ := cmp_v (Or.inl h)
  obtain rfl : Value.int n = y := Option.some.inj e2
  obtain ⟨b, cell, g1, g2, rfl⟩ := Term.length_spec e1
  cases ev.symm.trans g1
  have g3 : cell.slots.size < 2 ^ 31 := by
    apply Decidable.byContradiction
    intro q
    simp [Term.eval, ev, g2, q] at e1
  have g4 : cell = cl := by
    simp only [State.arrayAt?, Option.bind_eq_bind, Option.bind_eq_some_iff] at g2
    obtain ⟨c2, q1, k2, q2, q3⟩ := g2
    split at q3
    · cases q3
    · split at q3
      · cases q3; exact Option.some.inj (q1.symm.trans hc)
      · cases q3
  rw [← g4]
  refine ⟨g3, ?_⟩
  simp only [Cond.value] at h
  rw [e1, e2] at h
  simpa using h
theorem own_elem {args : Array Value} {s : State} {t u : Term} {a b : Addr} {cl : Cell} {k : Int32} (ev : t.eval args s none [] s = some (.ref a)) (hc : s.heap[a]? = some cl) (eu : u.eval args s none [] s = some (.ref b)) (h : (Jvm.Cond.eq (.elem t (.int k)) u).value args s none s [] = some true) : cl.slots[k.toNatClampNeg]? = some (.ref b) := by
  obtain ⟨x, y, e1, e2, -, -⟩ := cmp_v (Or.inl h)
  cases eu.symm.trans e2
  have q := (elem_in e1 ev rfl hc).2
  have : x = .ref b := by
    simp only [Cond.value] at h
    rw [e1, e2] at h
    cases x <;> simp at h ⊢
    exact h
  rw [q, this]
def own_lat (c : Int32) : Prop := ∃ k : Fin 256, c = Int32.ofNat k.1
def own_by (c : Int32) : Int32 := nar .byte c.toInt8.toInt32
theorem own_lat_le {c : Int32} (h : own_lat c) : ¬ (255 : Int32) < c := by obtain ⟨k, rfl⟩ := h; revert k; decide +kernel
theorem own_lat_ch {c : Int32} (h : own_lat c) : nar .char c = c := by obtain ⟨k, rfl⟩ := h; revert k; decide +kernel
theorem own_by_back {c : Int32} (h : own_lat c) : own_by c &&& 255 = c := by obtain ⟨k, rfl⟩ := h; revert k; decide +kernel
theorem own_by_iff {c d : Int32} (h : own_lat c) (g : own_lat d) : own_by c = own_by d ↔ c = d := ⟨fun q => by rw [← own_by_back h, q, own_by_back g], fun q => by rw [q]⟩
theorem own_lat_and (x : Int32) : own_lat (x &&& (255 : Int32)).toUInt32.toUInt16.toUInt32.toInt32 := by
  obtain ⟨h1, h2⟩ := c_and x 255 (by decide)
  have e : (255 : Int32).toInt = 255 := rfl
  rw [e] at h2
  have h3 : x &&& 255 = Int32.ofNat (x &&& 255).toInt.toNat := by
    apply Int32.toInt_inj.mp
    rw [Int32.toInt_ofNat_of_lt (by omega)]; omega
  have h4 : ∀ k : Fin 256, (Int32.ofNat k.1).toUInt32.toUInt16.toUInt32.toInt32 = Int32.ofNat k.1 := by decide +kernel
  rw [h3, h4 ⟨(x &&& 255).toInt.toNat, by omega⟩]
  exact ⟨⟨(x &&& 255).toInt.toNat, by omega⟩, rfl⟩
def own_eq1 (w0 z0 : Int32) : Int32 := (if w0 = z0 then 1 else 0)
theorem own_eq1_one {w0 z0 : Int32} (h : ¬ own_eq1 w0 z0 = (0 : Int32)) : own_eq1 w0 z0 = 1 := by unfold own_eq1 at h ⊢; by_cases q0 : w0 = z0 <;> simp_all
def own_eq2 (w0 w1 z0 z1 : Int32) : Int32 := (if w0 = z0 then (if w1 = z1 then 1 else 0) else 0)
theorem own_eq2_one {w0 w1 z0 z1 : Int32} (h : ¬ own_eq2 w0 w1 z0 z1 = (0 : Int32)) : own_eq2 w0 w1 z0 z1 = 1 := by unfold own_eq2 at h ⊢; by_cases q0 : w0 = z0 <;> by_cases q1 : w1 = z1 <;> simp_all
def own_eq3 (w0 w1 w2 z0 z1 z2 : Int32) : Int32 := (if w0 = z0 then (if w1 = z1 then (if w2 = z2 then 1 else 0) else 0) else 0)
theorem own_eq3_one {w0 w1 w2 z0 z1 z2 : Int32} (h : ¬ own_eq3 w0 w1 w2 z0 z1 z2 = (0 : Int32)) : own_eq3 w0 w1 w2 z0 z1 z2 = 1 := by unfold own_eq3 at h ⊢; by_cases q0 : w0 = z0 <;> by_cases q1 : w1 = z1 <;> by_cases q2 : w2 = z2 <;> simp_all
def own_EL : List (String × Nat) := [("java/lang/String", 7)]
theorem own_ew {a0 : Array Value} {Z : State} (hw : ∀ d ∈ tables_1, d.before a0 Z = true) : EW Z a0 own_EL := (EW.cons (own_hw hw 73) (by decide) EW.nil)
theorem own_el : ∀ p ∈ own_EL, p ∈ consts_1 := by decide
theorem own_safe_null {Z : State} {EL : List (String × Nat)} {vm : Vm} {h : Heap} {x : Addr} (hal : Z.vm.Alike vm) (E : Exa Z h x "java/lang/String") (F : Fld Z h x "java/lang/String" "value" "[B" .null) : Safe Z EL vm h x := fun B => by
  obtain ⟨cl, kc, e1, e2, e3, e4, e5⟩ := E
  obtain ⟨cell, cf, kf, i, f, g1, g2, g3, g4, g5, g6, g7⟩ := F
  have nm : ∀ {n : String} {c : ClassId}, vm.findClass n = some c → c = cl.cls → n = "java/lang/String" := fun {n c} f e => by
    subst e
    rw [hal.findClass] at f
    obtain ⟨k1, q1, q2⟩ := Vm.findClass_spec f
    obtain ⟨k2, q3, q4⟩ := Vm.findClass_spec e2
    cases q1.symm.trans q3
    exact q2.symm.trans q4
  obtain ⟨p, -, u, a, -, q, -, S, rfl | rfl⟩ := B
  · cases (show h[q.sa]? = some q.sC from S.ha).symm.trans g1
    obtain ⟨cS, ⟨⟨-, -, -, ⟨c1, k1, i1, f1, -⟩, -, -, -, v1, -⟩, -⟩, -⟩ := S
    obtain ⟨k3, z3, -⟩ := State.fieldFound?_setVm (s := Z) hal g2
    have z4 := (show (Wst Z vm h).fieldFound? _ _ _ = _ from z3).symm.trans f1
    simp only [Option.some.injEq, Prod.mk.injEq] at z4
    rw [← z4.2.2.2, g7] at v1
    cases v1
  · cases (show h[q.sd]? = some q.SA from S.hd).symm.trans e1
    obtain ⟨cS, -, -, f, -⟩ := S
    exact absurd (nm f rfl) (by decide)
theorem own_ne_oa {Z : State} {a0 : Array Value} {h : Heap} {a r : Addr} {C : String} {n : Nat} {k : ClassId} {ty : FieldType} {z : Int32} {vs : List Value} {d : Value} (w : (Cond.instantiable C n).before a0 Z = true) (E : Exa Z h a C) (A : Arv Z h r k ty z vs d) : @Ne Nat a r := fun e => by
  have e' : a = r := e
  subst e'
  obtain ⟨cl, kc, e1, e2, e3, -, -⟩ := E
  obtain ⟨x, ⟨A1, ⟨-, kA, hkA, comp, hkind⟩, -⟩, -⟩ := A
  obtain ⟨c1, k1, q1, q2, q3, -, -, -⟩ := Cond.instantiable_spec w
  cases e1.symm.trans A1
  cases e2.symm.trans q1
  cases q2.symm.trans hkA
  rw [q3] at hkind
  cases hkind
theorem own_str_ne {Z : State} {h : Heap} {a b ax ay : Addr} {ka kb : ClassId} {n m : Int32} {vs ws : List Value} {d d' : Value} {C : String} (F : Fld Z h a C "value" "[B" (.ref ax)) (G : Fld Z h b C "value" "[B" (.ref ay)) (A : Arv Z h ax ka .byte n vs d) (B : Arv Z h ay kb .byte m ws d') (hn : n.toNatClampNeg ≠ m.toNatClampNeg) : ¬ a = b := fun e => by
  subst e
  obtain ⟨c1, cf, k, i, f, g1, g2, -, -, -, -, g7⟩ := F
  obtain ⟨c2, cf', k', i', f', q1, q2, -, -, -, -, q7⟩ := G
  cases g1.symm.trans q1
  have z := g2.symm.trans q2
  simp only [Option.some.injEq, Prod.mk.injEq] at z
  rw [z.2.2.2, q7] at g7
  cases g7
  obtain ⟨x, A1, -, S1, -⟩ := A
  obtain ⟨y, B1, -, S2, -⟩ := B
  cases A1.1.symm.trans B1.1
  exact hn (S1.symm.trans S2)
theorem own_mod5 (x : Int32) : x % 5 = 0 ∨ x % 5 = 1 ∨ x % 5 = 2 ∨ x % 5 = 3 ∨ x % 5 = 4 ∨ x < 0 := by
  have h := Int32.toInt_mod x 5
  have e3 : (5 : Int32).toInt = 5 := rfl
  rw [e3] at h
  by_cases hx : x < 0
  · exact Or.inr (Or.inr (Or.inr (Or.inr (Or.inr (hx)))))
  · have h0 : 0 ≤ x.toInt := by rw [Int32.lt_iff_toInt_lt] at hx; have : (0 : Int32).toInt = 0 := rfl; omega
    rw [Int.tmod_eq_emod_of_nonneg h0] at h
    have h2 : (x % 5).toInt = 0 ∨ (x % 5).toInt = 1 ∨ (x % 5).toInt = 2 ∨ (x % 5).toInt = 3 ∨ (x % 5).toInt = 4 := by omega
    rcases h2 with h | h | h | h | h
    · exact Or.inl (Int32.toInt_inj.mp h)
    · exact Or.inr (Or.inl (Int32.toInt_inj.mp h))
    · exact Or.inr (Or.inr (Or.inl (Int32.toInt_inj.mp h)))
    · exact Or.inr (Or.inr (Or.inr (Or.inl (Int32.toInt_inj.mp h))))
    · exact Or.inr (Or.inr (Or.inr (Or.inr (Or.inl (Int32.toInt_inj.mp h)))))
theorem own_ne' {a b : Nat} (h : @Ne Nat a b) : ¬ a = b := h
theorem own_by_lit {c k : Int32} (h : own_lat c) (g : own_lat k) (e : own_by k = k) : own_by c = k ↔ c = k := by rw [← own_by_iff h g, e]
theorem own_l46 : own_lat 46 := ⟨⟨46, by decide⟩, rfl⟩
theorem own_l48 : own_lat 48 := ⟨⟨48, by decide⟩, rfl⟩
theorem own_l49 : own_lat 49 := ⟨⟨49, by decide⟩, rfl⟩
theorem own_l50 : own_lat 50 := ⟨⟨50, by decide⟩, rfl⟩
theorem own_b46 {c : Int32} (h : own_lat c) : own_by c = 46 ↔ c = 46 := own_by_lit h own_l46 (by decide)
theorem own_b48 {c : Int32} (h : own_lat c) : own_by c = 48 ↔ c = 48 := own_by_lit h own_l48 (by decide)
theorem own_b49 {c : Int32} (h : own_lat c) : own_by c = 49 ↔ c = 49 := own_by_lit h own_l49 (by decide)
theorem own_b50 {c : Int32} (h : own_lat c) : own_by c = 50 ↔ c = 50 := own_by_lit h own_l50 (by decide)
theorem own_lat_nar (x : Int32) : own_lat (nar .char (x &&& (255 : Int32)).toUInt32.toUInt16.toUInt32.toInt32) := by rw [own_lat_ch (own_lat_and x)]; exact own_lat_and x
theorem own_k46 : own_by 46 = 46 := by decide
theorem own_k48 : own_by 48 = 48 := by decide
theorem own_k49 : own_by 49 = 49 := by decide
theorem own_k50 : own_by 50 = 50 := by decide
def own_of (w0 w1 w2 : Int32) (a b : Addr) : Value := if own_eq3 49 46 48 w0 w1 w2 = 0 then (if own_eq3 50 46 48 w0 w1 w2 = 0 then .null else .ref b) else .ref a
theorem own_of_eval {u v w : Int32} (hu : own_lat u) (hv : own_lat v) (hw : own_lat w) (a b : Addr) : own_of (own_by u) (own_by v) (own_by w) a b = if v = (46 : Int32) ∧ w = (48 : Int32) then (if u = (49 : Int32) then .ref a else if u = (50 : Int32) then .ref b else .null) else .null := by
  have e1 : ((49 : Int32) = own_by u) = (u = 49) := propext (eq_comm.trans (own_b49 hu))
  have e2 : ((50 : Int32) = own_by u) = (u = 50) := propext (eq_comm.trans (own_b50 hu))
  have e3 : ((46 : Int32) = own_by v) = (v = 46) := propext (eq_comm.trans (own_b46 hv))
  have e4 : ((48 : Int32) = own_by w) = (w = 48) := propext (eq_comm.trans (own_b48 hw))
  unfold own_of own_eq3
  simp only [e1, e2, e3, e4]
  by_cases q1 : u = 49 <;> by_cases q2 : u = 50 <;> by_cases q3 : v = 46 <;> by_cases q4 : w = 48 <;> simp [q1, q2, q3, q4]
theorem own_of_ref (w0 w1 w2 : Int32) (a b : Addr) : (own_of w0 w1 w2 a b).isRef = true := by unfold own_of; split; split <;> rfl; rfl
theorem own_r5 (x : Int32) : (x &&& (7 : Int32)) % (5 : Int32) = 0 ∨ (x &&& (7 : Int32)) % (5 : Int32) = 1 ∨ (x &&& (7 : Int32)) % (5 : Int32) = 2 ∨ (x &&& (7 : Int32)) % (5 : Int32) = 3 ∨ (x &&& (7 : Int32)) % (5 : Int32) = 4 := by
  rcases own_mod5 (x &&& (7 : Int32)) with h | h | h | h | h | h
  · exact Or.inl h
  · exact Or.inr (Or.inl h)
  · exact Or.inr (Or.inr (Or.inl h))
  · exact Or.inr (Or.inr (Or.inr (Or.inl h)))
  · exact Or.inr (Or.inr (Or.inr (Or.inr h)))
  · have := (c_and x 7 (by decide)).1
    rw [Int32.lt_iff_toInt_lt] at h; have e : (0 : Int32).toInt = 0 := rfl; omega
theorem own_elem_i {args : Array Value} {s : State} {t : Term} {a : Addr} {cl : Cell} {k z : Int32} (ev : t.eval args s none [] s = some (.ref a)) (hc : s.heap[a]? = some cl) (h : (Jvm.Cond.eq (.elem t (.int k)) (.int z)).value args s none s [] = some true) : cl.slots[k.toNatClampNeg]? = some (.int z) := by
  obtain ⟨x, y, e1, e2, -, k2⟩ := cmp_v (Or.inl h)
  obtain rfl : Value.int z = y := Option.some.inj e2
  obtain ⟨w, rfl⟩ := k2
  have q := (elem_in e1 ev rfl hc).2
  have e : w = z := by
    simp only [Cond.value] at h
    rw [e1, e2] at h
    simpa using h
  rw [q, e]
abbrev oi (x : Int32) : Slot := .val (.int x)
abbrev oj (x : Int64) : Slot := .val (.long x)
abbrev oR (x : Addr) : Slot := .val (.ref x)
abbrev oM0 : MethodName := ⟨"java/lang/String", "equals", "(Ljava/lang/Object;)Z"⟩
abbrev oM1 : MethodName := ⟨"com/example/scatterkeep/scatterkeep/protocol/Version", "of", "(Ljava/lang/String;)Lcom/example/scatterkeep/scatterkeep/protocol/Version;"⟩
abbrev oM2 : MethodName := ⟨"java/lang/String", "<init>", "([CIILjava/lang/Void;)V"⟩
abbrev oM3 : MethodName := ⟨"java/lang/String", "<init>", "([C)V"⟩
abbrev oM4 : MethodName := ⟨"java/lang/StringLatin1", "equals", "([B[B)Z"⟩
abbrev oM5 : MethodName := ⟨"com/example/scatterkeep/scatterkeep/protocol/VersionOfPinLaw", "str", "(ICCCC)Ljava/lang/String;"⟩
abbrev oM6 : MethodName := ⟨"java/lang/StringUTF16", "compress", "([CI[BII)I"⟩
abbrev oM7 : MethodName := ⟨"java/lang/StringUTF16", "compress", "([CII)[B"⟩
abbrev oM8 : MethodName := ⟨"java/lang/StringUTF16", "coderFromArrayLen", "([BI)B"⟩
abbrev oM9 : MethodName := ⟨"com/example/scatterkeep/scatterkeep/protocol/Version", "values", "()[Lcom/example/scatterkeep/scatterkeep/protocol/Version;"⟩
abbrev oM10 : MethodName := ⟨"com/example/scatterkeep/scatterkeep/protocol/VersionOfPinLaw", "ch", "(IZ)C"⟩
abbrev oM11 : MethodName := ⟨"com/example/scatterkeep/scatterkeep/protocol/VersionOfPinLaw", "pick", "(I)C"⟩
abbrev oS0 : String := "java/lang/String"
abbrev oS1 : String := "com/example/scatterkeep/scatterkeep/protocol/Version"
abbrev oS2 : String := "Ljava/lang/String;"
abbrev oS3 : String := "COMPACT_STRINGS"
abbrev oS4 : String := "[Lcom/example/scatterkeep/scatterkeep/protocol/Version;"
abbrev oS5 : String := "java/lang/StringUTF16"
abbrev oS6 : String := "com/example/scatterkeep/scatterkeep/protocol/VersionOfPinLaw"
abbrev oS7 : String := "Lcom/example/scatterkeep/scatterkeep/protocol/Version;"
abbrev oS8 : String := "java/lang/StringLatin1"
theorem d7_0 : decode jdk_52_method_21_code 0 = .ok (.iconst 0, 1) := by decide +kernel
theorem d7_1 : decode jdk_52_method_21_code 1 = .ok (.istore 5, 2) := by decide +kernel
theorem d7_3 : decode jdk_52_method_21_code 3 = .ok (.iload 5, 2) := by decide +kernel
theorem d7_5 : decode jdk_52_method_21_code 5 = .ok (.iload 4, 2) := by decide +kernel
theorem d7_7 : decode jdk_52_method_21_code 7 = .ok (.if_icmp .ge 37, 3) := by decide +kernel
theorem d7_10 : decode jdk_52_method_21_code 10 = .ok (.aload_n 0, 1) := by decide +kernel
theorem d7_11 : decode jdk_52_method_21_code 11 = .ok (.iload_n 1, 1) := by decide +kernel
theorem d7_12 : decode jdk_52_method_21_code 12 = .ok (.caload, 1) := by decide +kernel
theorem d7_13 : decode jdk_52_method_21_code 13 = .ok (.istore 6, 2) := by decide +kernel
theorem d7_15 : decode jdk_52_method_21_code 15 = .ok (.iload 6, 2) := by decide +kernel
theorem d7_17 : decode jdk_52_method_21_code 17 = .ok (.sipush 255, 3) := by decide +kernel
theorem d7_20 : decode jdk_52_method_21_code 20 = .ok (.if_icmp .le 6, 3) := by decide +kernel
theorem d7_26 : decode jdk_52_method_21_code 26 = .ok (.aload_n 2, 1) := by decide +kernel
theorem d7_27 : decode jdk_52_method_21_code 27 = .ok (.iload_n 3, 1) := by decide +kernel
theorem d7_28 : decode jdk_52_method_21_code 28 = .ok (.iload 6, 2) := by decide +kernel
theorem d7_30 : decode jdk_52_method_21_code 30 = .ok (.i2b, 1) := by decide +kernel
theorem d7_31 : decode jdk_52_method_21_code 31 = .ok (.bastore, 1) := by decide +kernel
theorem d7_32 : decode jdk_52_method_21_code 32 = .ok (.iinc 1 1, 3) := by decide +kernel
theorem d7_35 : decode jdk_52_method_21_code 35 = .ok (.iinc 3 1, 3) := by decide +kernel
theorem d7_38 : decode jdk_52_method_21_code 38 = .ok (.iinc 5 1, 3) := by decide +kernel
theorem d7_41 : decode jdk_52_method_21_code 41 = .ok (.goto (-38), 3) := by decide +kernel
theorem d7_44 : decode jdk_52_method_21_code 44 = .ok (.iload 4, 2) := by decide +kernel
theorem d7_46 : decode jdk_52_method_21_code 46 = .ok (.ireturn, 1) := by decide +kernel
theorem pn_7 : plainName "java/lang/StringUTF16" = true := by first | (simp [plainName, overriddenIn]; done) | decide +kernel
theorem ef_rcp_1 (m : MethodId) (x0 : Addr) (x1 : Int32) (x2 : Addr) (x3 : Int32) (x4 : Int32) : entryFrame m #[(.ref x0), (.int x1), (.ref x2), (.int x3), (.int x4)] 7 = mkF m 0 #[.val (.ref x0), .val (.int x1), .val (.ref x2), .val (.int x3), .val (.int x4), .unset, .unset] [] := by first | (simp [entryFrame, mkF, argsToLocals, Value.category]; done) | rfl
def Qrcp_1 (Z : State) (ax : Addr) (ka : ClassId) (ay : Addr) (kb : ClassId) (u0 : Int32) (h0 : Heap) (n0 : Nat) (v : Option Value) (h : Heap) (L : List Loc) : Prop := (v = some (.int (1 : Int32))) ∧ (Fr n0 L) ∧ (Keep h0 h [ay]) ∧ (Arv Z h ay kb .byte (1 : Int32) [(.int (own_by u0))] (.int (0 : Int32)))
set_option maxRecDepth 65536 in
set_option maxHeartbeats 40000000 in
theorem rcp_1 (l : Launch) (Z : State) (a0 : Array Value) (hw : ∀ d ∈ tables_1, d.before a0 Z = true) (ws : List Jvm.Cond) (ax : Addr) (ka : ClassId) (ay : Addr) (kb : ClassId) (u0 : Int32) (h0 : Heap) (n0 : Nat) (Z0 : n0 ≤ h0.size) (pr1 : Arv Z h0 ax ka .char (1 : Int32) [(.int u0)] (.int (0 : Int32))) (pr2 : Arv Z h0 ay kb .byte (1 : Int32) [(.int (0 : Int32))] (.int (0 : Int32))) (pr3 : n0 ≤ ay) (pr4 : @Ne Nat ax ay) (hl_u0 : own_lat u0) :
    MetFree l oM6 (head1 (Jvm.Cond.code oM6 jdk_52_method_21_code 7 (some .int) :: ws) ({ frames := 0, cells := 0, slots := 0, locals := 0 } : Room)) (fun a U => a = #[(.ref ax), (.int (0 : Int32)), (.ref ay), (.int (0 : Int32)), (.int (1 : Int32))] ∧ Z.Warmed39 U.vm ∧ U.heap = h0) (fun _ _ _ _ _ => True) (fun _ U o U' => ∃ v L, o = .returned v ∧ Qrcp_1 Z ax ka ay kb u0 h0 n0 v U'.heap L ∧ FrameEnd U o U' L ({ frames := 0, cells := 0, slots := 0, locals := 0 } : Room).cells ({ frames := 0, cells := 0, slots := 0, locals := 0 } : Room).slots) := by
  refine MetFree.of_bodySF (plainFor_of_name pn_7) hisR ?_
  intro p e s m args below meth c s₁ Bd hml0 hP0 hK
  obtain ⟨rfl, hZ, hh⟩ := hP0
  have hx := Bd.exec
  have hby := Bd.bytes
  have hml : c.maxLocals = 7 := hml0
  have hown : s.vm.findClass oS5 = some m.cls := findClass_of_methodNamed Bd.named
  have hnm := (name_of_methodNamed Bd.named Bd.method).1
  have X0 : Stand p l e ({ frames := 0, cells := 0, slots := 0, locals := 0 } : Room) s m #[(.ref ax), (.int (0 : Int32)), (.ref ay), (.int (0 : Int32)), (.int (1 : Int32))] below meth c s₁ [] 0 0 := Stand.of_body Bd
  have e0 : s₁.heap = h0 := by rw [← hh, Bd.state]; rfl
  have N0 := Fr.nil n0
  suffices own_H : ∀ (P : State → Outcome → Prop), (∀ U o, U.status = .running → Ended U below o → (∃ v L, o = .returned v ∧ Qrcp_1 Z ax ka ay kb u0 h0 n0 v U.heap L ∧ FrameEnd s o U L ({ frames := 0, cells := 0, slots := 0, locals := 0 } : Room).cells ({ frames := 0, cells := 0, slots := 0, locals := 0 } : Room).slots) → P U o) → own_Go p.tables e below P (s₁.setTop (mkF m 0 #[oR ax, oi 0, oR ay, oi 0, oi 1, .unset, .unset] [])) from own_go (fun _ k => castTop (ef_rcp_1 m ax (0 : Int32) ay (0 : Int32) (1 : Int32)) k) (own_H _ (fun U o h1 h2 h3 => ⟨h1, h2, h3⟩))
  intro P hP
  have lt_ax : @LT.lt Nat _ ax h0.size := pr1.lt
  have lt_ay : @LT.lt Nat _ ay h0.size := pr2.lt
  refine own_go (st' := s₁.setTop (mkF m 1 #[oR ax, oi 0, oR ay, oi 0, oi 1, .unset, .unset] [(.int (0 : Int32))])) (fun _ k => XS.iconst X0.here hx rfl (hb hby d7_0) k) ?_
  refine own_go (st' := s₁.setTop (mkF m 3 #[oR ax, oi 0, oR ay, oi 0, oi 1, oi 0, .unset] [])) (fun _ k => XS.istore X0.here hx rfl (hb hby d7_1) rfl (l' := #[oR ax, oi 0, oR ay, oi 0, oi 1, oi 0, .unset]) rfl k) ?_
  refine own_go (st' := s₁.setTop (mkF m 5 #[oR ax, oi 0, oR ay, oi 0, oi 1, oi 0, .unset] [(.int (0 : Int32))])) (fun _ k => XS.iload X0.here hx rfl (hb hby d7_3) rfl k) ?_
  refine own_go (st' := s₁.setTop (mkF m 7 #[oR ax, oi 0, oR ay, oi 0, oi 1, oi 0, .unset] [(.int (1 : Int32)), (.int (0 : Int32))])) (fun _ k => XS.iload X0.here hx rfl (hb hby d7_5) rfl k) ?_
  have hc1 : (0 : Int32) < (1 : Int32) := by decide
  refine own_go (st' := s₁.setTop (mkF m 10 #[oR ax, oi 0, oR ay, oi 0, oi 1, oi 0, .unset] [])) (fun _ k => XS.icmpNo X0.here hx rfl (hb hby d7_7) rfl (tlt hc1).2.1 k) ?_
  refine own_go (st' := s₁.setTop (mkF m 11 #[oR ax, oi 0, oR ay, oi 0, oi 1, oi 0, .unset] [(.ref ax)])) (fun _ k => XS.aloadN X0.here hx rfl (hb hby d7_10) rfl rfl k) ?_
  refine own_go (st' := s₁.setTop (mkF m 12 #[oR ax, oi 0, oR ay, oi 0, oi 1, oi 0, .unset] [(.int (0 : Int32)), (.ref ax)])) (fun _ k => XS.iloadN X0.here hx rfl (hb hby d7_11) rfl k) ?_
  obtain ⟨cl2, Ar2, -, S2, M2, H2, -⟩ := id pr1
  have hin2 : ¬ ((0 : Int32) < 0 ∨ cl2.slots.size ≤ ((0 : Int32)).toNatClampNeg) := (inb_of S2 ⟨by decide, by decide⟩)
  have hat2 : cl2.slots[((0 : Int32)).toNatClampNeg]? = some (.int u0) := (H2.at hin2 rfl)
  refine own_go (st' := s₁.setTop (mkF m 13 #[oR ax, oi 0, oR ay, oi 0, oi 1, oi 0, .unset] [(.int u0)])) (X0.caload hx (j := (0 : Int32)) (v := (.int u0)) (by rw [e0]; exact Ar2.1) (State.isArrayOf_alike hZ.alike Ar2.2.1) Ar2.2.2 hin2 hat2 (g := (mkF m 12 #[oR ax, oi 0, oR ay, oi 0, oi 1, oi 0, .unset] [(.int (0 : Int32)), (.ref ax)])) rfl rfl (hb hby d7_12)) ?_
  refine own_go (st' := s₁.setTop (mkF m 15 #[oR ax, oi 0, oR ay, oi 0, oi 1, oi 0, oi u0] [])) (fun _ k => XS.istore X0.here hx rfl (hb hby d7_13) rfl (l' := #[oR ax, oi 0, oR ay, oi 0, oi 1, oi 0, oi u0]) rfl k) ?_
  refine own_go (st' := s₁.setTop (mkF m 17 #[oR ax, oi 0, oR ay, oi 0, oi 1, oi 0, oi u0] [(.int u0)])) (fun _ k => XS.iload X0.here hx rfl (hb hby d7_15) rfl k) ?_
  refine own_go (st' := s₁.setTop (mkF m 20 #[oR ax, oi 0, oR ay, oi 0, oi 1, oi 0, oi u0] [(.int (255 : Int32)), (.int u0)])) (fun _ k => XS.sipush X0.here hx rfl (hb hby d7_17) k) ?_
  have hc3 : ¬ ((255 : Int32) < u0) := (own_lat_le hl_u0)
  refine own_go (st' := s₁.setTop (mkF m 26 #[oR ax, oi 0, oR ay, oi 0, oi 1, oi 0, oi u0] [])) (fun _ k => XS.icmpYes X0.here hx rfl (pc0 := 20) (pc' := 26) rfl (hb hby d7_20) rfl (flt hc3).2.2.2 (by decide) (by decide) k) ?_
  refine own_go (st' := s₁.setTop (mkF m 27 #[oR ax, oi 0, oR ay, oi 0, oi 1, oi 0, oi u0] [(.ref ay)])) (fun _ k => XS.aloadN X0.here hx rfl (hb hby d7_26) rfl rfl k) ?_
  refine own_go (st' := s₁.setTop (mkF m 28 #[oR ax, oi 0, oR ay, oi 0, oi 1, oi 0, oi u0] [(.int (0 : Int32)), (.ref ay)])) (fun _ k => XS.iloadN X0.here hx rfl (hb hby d7_27) rfl k) ?_
  refine own_go (st' := s₁.setTop (mkF m 30 #[oR ax, oi 0, oR ay, oi 0, oi 1, oi 0, oi u0] [(.int u0), (.int (0 : Int32)), (.ref ay)])) (fun _ k => XS.iload X0.here hx rfl (hb hby d7_28) rfl k) ?_
  refine own_go (st' := s₁.setTop (mkF m 31 #[oR ax, oi 0, oR ay, oi 0, oi 1, oi 0, oi u0] [(.int u0.toInt8.toInt32), (.int (0 : Int32)), (.ref ay)])) (fun _ k => XS.i2b X0.here hx rfl (hb hby d7_30) rfl k) ?_
  obtain ⟨cl4, Ar4, qc4, S4, M4, H4, G4⟩ := id pr2
  have hin4 : ¬ ((0 : Int32) < 0 ∨ cl4.slots.size ≤ ((0 : Int32)).toNatClampNeg) := (inb_of S4 ⟨by decide, by decide⟩)
  obtain ⟨T4, h4, X4, e4, W4, st4⟩ := stB X0 hx hZ e0 Ar4 (j := (0 : Int32)) hin4 (g := (mkF m 31 #[oR ax, oi 0, oR ay, oi 0, oi 1, oi 0, oi u0] [(.int u0.toInt8.toInt32), (.int (0 : Int32)), (.ref ay)])) rfl rfl (hb hby d7_31)
  have sz4 : h4.size = h0.size := W4.size
  have N4 := Fr.snoc X4 N0 (by omega)
  have v4 : Arv Z h4 ay kb .byte (1 : Int32) [(.int (nar .byte u0.toInt8.toInt32))] (.int (0 : Int32)) := Arv.set Ar4 qc4 S4 M4 H4 G4 (fits_nar_byte _) W4 0 rfl (Nat.le_of_ble_eq_true rfl)
  refine own_go (st' := T4.setTop (mkF m 32 #[oR ax, oi 0, oR ay, oi 0, oi 1, oi 0, oi u0] [])) (st4) ?_
  refine own_go (st' := T4.setTop (mkF m 35 #[oR ax, oi 1, oR ay, oi 0, oi 1, oi 0, oi u0] [])) (fun _ k => XS.iinc X4.here hx rfl (hb hby d7_32) rfl (l' := #[oR ax, oi 1, oR ay, oi 0, oi 1, oi 0, oi u0]) (by rw [show ((0 : Int32) + Int32.ofInt 1) = (1 : Int32) by decide]; rfl) k) ?_
  refine own_go (st' := T4.setTop (mkF m 38 #[oR ax, oi 1, oR ay, oi 1, oi 1, oi 0, oi u0] [])) (fun _ k => XS.iinc X4.here hx rfl (hb hby d7_35) rfl (l' := #[oR ax, oi 1, oR ay, oi 1, oi 1, oi 0, oi u0]) (by rw [show ((0 : Int32) + Int32.ofInt 1) = (1 : Int32) by decide]; rfl) k) ?_
  refine own_go (st' := T4.setTop (mkF m 41 #[oR ax, oi 1, oR ay, oi 1, oi 1, oi 1, oi u0] [])) (fun _ k => XS.iinc X4.here hx rfl (hb hby d7_38) rfl (l' := #[oR ax, oi 1, oR ay, oi 1, oi 1, oi 1, oi u0]) (by rw [show ((0 : Int32) + Int32.ofInt 1) = (1 : Int32) by decide]; rfl) k) ?_
  refine own_go (st' := T4.setTop (mkF m 3 #[oR ax, oi 1, oR ay, oi 1, oi 1, oi 1, oi u0] [])) (fun _ k => XS.goto X4.here hx rfl (pc0 := 41) (pc' := 3) rfl (hb hby d7_41) (by decide) (by decide) k) ?_
  refine own_go (st' := T4.setTop (mkF m 5 #[oR ax, oi 1, oR ay, oi 1, oi 1, oi 1, oi u0] [(.int (1 : Int32))])) (fun _ k => XS.iload X4.here hx rfl (hb hby d7_3) rfl k) ?_
  refine own_go (st' := T4.setTop (mkF m 7 #[oR ax, oi 1, oR ay, oi 1, oi 1, oi 1, oi u0] [(.int (1 : Int32)), (.int (1 : Int32))])) (fun _ k => XS.iload X4.here hx rfl (hb hby d7_5) rfl k) ?_
  have hc5 : ¬ ((1 : Int32) < (1 : Int32)) := by decide
  refine own_go (st' := T4.setTop (mkF m 44 #[oR ax, oi 1, oR ay, oi 1, oi 1, oi 1, oi u0] [])) (fun _ k => XS.icmpYes X4.here hx rfl (pc0 := 7) (pc' := 44) rfl (hb hby d7_7) rfl (flt hc5).2.1 (by decide) (by decide) k) ?_
  refine own_go (st' := T4.setTop (mkF m 46 #[oR ax, oi 1, oR ay, oi 1, oi 1, oi 1, oi u0] [(.int (1 : Int32))])) (fun _ k => XS.iload X4.here hx rfl (hb hby d7_44) rfl k) ?_
  obtain ⟨fs, hr, hrun, hended, hW, hsame⟩ := X4.leave (v := some (.int (1 : Int32))) (fun h => by rw [Bd.returns] at h; cases h)
  refine ⟨_, _, ?_, hP _ _ hrun hended ⟨_, _, rfl, ?_, ⟨_, rfl⟩, hW, hsame.mono (by decide) (by decide)⟩⟩
  · exact retOut X4 hx Bd.returns rfl (Or.inl ⟨rfl, Or.inl rfl, _, rfl⟩) (hb hby d7_46) hr
  · show Qrcp_1 Z ax ka ay kb u0 h0 n0 _ T4.heap _
    rw [e4]
    exact ⟨rfl, N4, ((Keep.refl h0 [ay]).wr W4 (Or.inl (List.mem_of_getElem? (i := 0) rfl))), v4⟩
theorem pd_0 : parseMethodDescriptor "([CI[BII)I" = some ⟨[(.array .char), .int, (.array .byte), .int, .int], some .int⟩ := by decide +kernel
theorem d6_0 : decode jdk_52_method_16_code 0 = .ok (.iload_n 2, 1) := by decide +kernel
theorem d6_1 : decode jdk_52_method_16_code 1 = .ok (.newarray .byte, 2) := by decide +kernel
theorem d6_3 : decode jdk_52_method_16_code 3 = .ok (.astore_n 3, 1) := by decide +kernel
theorem d6_4 : decode jdk_52_method_16_code 4 = .ok (.aload_n 0, 1) := by decide +kernel
theorem d6_5 : decode jdk_52_method_16_code 5 = .ok (.iload_n 1, 1) := by decide +kernel
theorem d6_6 : decode jdk_52_method_16_code 6 = .ok (.aload_n 3, 1) := by decide +kernel
theorem d6_7 : decode jdk_52_method_16_code 7 = .ok (.iconst 0, 1) := by decide +kernel
theorem d6_8 : decode jdk_52_method_16_code 8 = .ok (.iload_n 2, 1) := by decide +kernel
theorem d6_9 : decode jdk_52_method_16_code 9 = .ok (.invokestatic 115, 3) := by decide +kernel
theorem d6_12 : decode jdk_52_method_16_code 12 = .ok (.istore 4, 2) := by decide +kernel
theorem d6_14 : decode jdk_52_method_16_code 14 = .ok (.iload 4, 2) := by decide +kernel
theorem d6_16 : decode jdk_52_method_16_code 16 = .ok (.iload_n 2, 1) := by decide +kernel
theorem d6_17 : decode jdk_52_method_16_code 17 = .ok (.if_icmp .eq 40, 3) := by decide +kernel
theorem d6_57 : decode jdk_52_method_16_code 57 = .ok (.aload_n 3, 1) := by decide +kernel
theorem d6_58 : decode jdk_52_method_16_code 58 = .ok (.areturn, 1) := by decide +kernel
theorem pn_6 : plainName "java/lang/StringUTF16" = true := by first | (simp [plainName, overriddenIn]; done) | decide +kernel
theorem ef_rcq_1 (m : MethodId) (x0 : Addr) (x1 : Int32) (x2 : Int32) : entryFrame m #[(.ref x0), (.int x1), (.int x2)] 6 = mkF m 0 #[.val (.ref x0), .val (.int x1), .val (.int x2), .unset, .unset, .unset] [] := by first | (simp [entryFrame, mkF, argsToLocals, Value.category]; done) | rfl
def Qrcq_1 (Z : State) (ax : Addr) (ka : ClassId) (u0 : Int32) (h0 : Heap) (n0 : Nat) (v : Option Value) (h : Heap) (L : List Loc) : Prop := ∃ (r : Addr) (kr : ClassId), (v = some (.ref r)) ∧ (Fr n0 L) ∧ (Keep h0 h []) ∧ (Arv Z h r kr .byte (1 : Int32) [(.int (own_by u0))] (.int (0 : Int32))) ∧ (h0.size ≤ r)
set_option maxRecDepth 65536 in
set_option maxHeartbeats 40000000 in
theorem rcq_1 (l : Launch) (Z : State) (a0 : Array Value) (hw : ∀ d ∈ tables_1, d.before a0 Z = true) (ws : List Jvm.Cond) (ax : Addr) (ka : ClassId) (u0 : Int32) (h0 : Heap) (n0 : Nat) (Z0 : n0 ≤ h0.size) (pr1 : Arv Z h0 ax ka .char (1 : Int32) [(.int u0)] (.int (0 : Int32))) (hl_u0 : own_lat u0) :
    MetFree l oM7 (head1 (Jvm.Cond.code oM7 jdk_52_method_16_code 6 (some (.array .byte)) :: ws) ({ frames := 1, cells := 1, slots := 1, locals := 18 } : Room)) (fun a U => a = #[(.ref ax), (.int (0 : Int32)), (.int (1 : Int32))] ∧ Z.Warmed39 U.vm ∧ U.heap = h0) (fun _ _ _ _ _ => True) (fun _ U o U' => ∃ v L, o = .returned v ∧ Qrcq_1 Z ax ka u0 h0 n0 v U'.heap L ∧ FrameEnd U o U' L ({ frames := 1, cells := 1, slots := 1, locals := 18 } : Room).cells ({ frames := 1, cells := 1, slots := 1, locals := 18 } : Room).slots) := by
  refine MetFree.of_bodySF (plainFor_of_name pn_6) hisR ?_
  intro p e s m args below meth c s₁ Bd hml0 hP0 hK
  obtain ⟨rfl, hZ, hh⟩ := hP0
  have hx := Bd.exec
  have hby := Bd.bytes
  have hml : c.maxLocals = 6 := hml0
  have hown : s.vm.findClass oS5 = some m.cls := findClass_of_methodNamed Bd.named
  have hnm := (name_of_methodNamed Bd.named Bd.method).1
  have X0 : Stand p l e ({ frames := 1, cells := 1, slots := 1, locals := 18 } : Room) s m #[(.ref ax), (.int (0 : Int32)), (.int (1 : Int32))] below meth c s₁ [] 0 0 := Stand.of_body Bd
  have e0 : s₁.heap = h0 := by rw [← hh, Bd.state]; rfl
  have N0 := Fr.nil n0
  suffices own_H : ∀ (P : State → Outcome → Prop), (∀ U o, U.status = .running → Ended U below o → (∃ v L, o = .returned v ∧ Qrcq_1 Z ax ka u0 h0 n0 v U.heap L ∧ FrameEnd s o U L ({ frames := 1, cells := 1, slots := 1, locals := 18 } : Room).cells ({ frames := 1, cells := 1, slots := 1, locals := 18 } : Room).slots) → P U o) → own_Go p.tables e below P (s₁.setTop (mkF m 0 #[oR ax, oi 0, oi 1, .unset, .unset, .unset] [])) from own_go (fun _ k => castTop (ef_rcq_1 m ax (0 : Int32) (1 : Int32)) k) (own_H _ (fun U o h1 h2 h3 => ⟨h1, h2, h3⟩))
  intro P hP
  have lt_ax : @LT.lt Nat _ ax h0.size := pr1.lt
  refine own_go (st' := s₁.setTop (mkF m 1 #[oR ax, oi 0, oi 1, .unset, .unset, .unset] [(.int (1 : Int32))])) (fun _ k => XS.iloadN X0.here hx rfl (hb hby d6_0) rfl k) ?_
  obtain ⟨T1, h1, k1, X1, e1, E1, A1, st1⟩ := newP X0 hx hZ (own_hw hw 26) e0 (g := (mkF m 1 #[oR ax, oi 0, oi 1, .unset, .unset, .unset] [(.int (1 : Int32))])) rfl (hb hby d6_1) rfl (by decide) (cap := 1) (by decide) (by decide) (by decide) (by decide)
  obtain ⟨b1, g1⟩ : ∃ z, z = h0.size := ⟨_, rfl⟩
  rw [← g1] at A1 st1
  have sz1 : h0.size ≤ h1.size := E1.1
  have lt1 : @LT.lt Nat _ b1 h1.size := A1.lt
  have v1 : Arv Z h1 b1 k1 .byte (1 : Int32) [(.int (0 : Int32))] (.int (0 : Int32)) := (Arv.new A1 (by decide)).pad (pad_rep [] (.int (0 : Int32)) 1)
  refine own_go (st' := T1.setTop (mkF m 3 #[oR ax, oi 0, oi 1, .unset, .unset, .unset] [(.ref b1)])) (st1) ?_
  refine own_go (st' := T1.setTop (mkF m 4 #[oR ax, oi 0, oi 1, oR b1, .unset, .unset] [])) (fun _ k => XS.astoreN X1.here hx rfl (hb hby d6_3) rfl rfl (l' := #[oR ax, oi 0, oi 1, oR b1, .unset, .unset]) rfl k) ?_
  refine own_go (st' := T1.setTop (mkF m 5 #[oR ax, oi 0, oi 1, oR b1, .unset, .unset] [(.ref ax)])) (fun _ k => XS.aloadN X1.here hx rfl (hb hby d6_4) rfl rfl k) ?_
  refine own_go (st' := T1.setTop (mkF m 6 #[oR ax, oi 0, oi 1, oR b1, .unset, .unset] [(.int (0 : Int32)), (.ref ax)])) (fun _ k => XS.iloadN X1.here hx rfl (hb hby d6_5) rfl k) ?_
  refine own_go (st' := T1.setTop (mkF m 7 #[oR ax, oi 0, oi 1, oR b1, .unset, .unset] [(.ref b1), (.int (0 : Int32)), (.ref ax)])) (fun _ k => XS.aloadN X1.here hx rfl (hb hby d6_6) rfl rfl k) ?_
  refine own_go (st' := T1.setTop (mkF m 8 #[oR ax, oi 0, oi 1, oR b1, .unset, .unset] [(.int (0 : Int32)), (.ref b1), (.int (0 : Int32)), (.ref ax)])) (fun _ k => XS.iconst X1.here hx rfl (hb hby d6_7) k) ?_
  refine own_go (st' := T1.setTop (mkF m 9 #[oR ax, oi 0, oi 1, oR b1, .unset, .unset] [(.int (1 : Int32)), (.int (0 : Int32)), (.ref b1), (.int (0 : Int32)), (.ref ax)])) (fun _ k => XS.iloadN X1.here hx rfl (hb hby d6_8) rfl k) ?_
  have c3 : Arv Z h1 ax ka .char (1 : Int32) [(.int u0)] (.int (0 : Int32)) := (pr1.ext E1)
  obtain ⟨_, _, ⟨T2, LC2, kC2, nC2⟩, -, X2, ⟨Lc2, hQ2, lq2, yq2, zq2⟩, st2⟩ := Jvm.LawKit.callS X1 hx (y := oM6) hown (mvT hZ (own_hw hw 27)) (mvT hZ (own_hw hw 28)) (mvT hZ (own_hw hw 24)) (mvT hZ (own_hw hw 29)) (by decide) (backOf (W := 0) (rcp_1 l Z a0 hw [] ax ka b1 k1 u0 h1 n0 (by omega) c3 v1 (by omega) (own_ne (by omega)) hl_u0) hZ (own_hw hw 29) (own_hw hw 24) (by decide) (by decide)) (g := (mkF m 9 #[oR ax, oi 0, oi 1, oR b1, .unset, .unset] [(.int (1 : Int32)), (.int (0 : Int32)), (.ref b1), (.int (0 : Int32)), (.ref ax)])) rfl (by rw [hml]; rfl) (argsL := [(.ref ax), (.int (0 : Int32)), (.ref b1), (.int (0 : Int32)), (.int (1 : Int32))]) (rest := []) (lenOf pd_0 rfl) rfl (by show 2 * 0 + _ ≤ _; exact Nat.le_of_eq rfl) (hb hby d6_9) (fun _ _ => ⟨rfl, e1, (by decide : 1 + 0 ≤ _), (by decide : 1 + 0 ≤ _)⟩)
  dsimp only [Pt.U, Pt.locs, Pt.cells, Pt.slots] at X2 lq2 yq2 zq2 st2 hQ2
  subst lq2 yq2 zq2
  obtain ⟨h2, e2⟩ : ∃ z, T2.heap = z := ⟨_, rfl⟩
  rw [e2] at hQ2
  obtain ⟨rfl, Nq2, K2, g2_0⟩ := hQ2
  have sz2 : h1.size ≤ h2.size := K2.1
  have N2 := Fr.app N0 Nq2
  have lt2_1 : @LT.lt Nat _ b1 h2.size := g2_0.lt
  refine own_go (st' := T2.setTop (mkF m 12 #[oR ax, oi 0, oi 1, oR b1, .unset, .unset] [(.int (1 : Int32))])) (fun t k => st2 t k) ?_
  refine own_go (st' := T2.setTop (mkF m 14 #[oR ax, oi 0, oi 1, oR b1, oi 1, .unset] [])) (fun _ k => XS.istore X2.here hx rfl (hb hby d6_12) rfl (l' := #[oR ax, oi 0, oi 1, oR b1, oi 1, .unset]) rfl k) ?_
  refine own_go (st' := T2.setTop (mkF m 16 #[oR ax, oi 0, oi 1, oR b1, oi 1, .unset] [(.int (1 : Int32))])) (fun _ k => XS.iload X2.here hx rfl (hb hby d6_14) rfl k) ?_
  refine own_go (st' := T2.setTop (mkF m 17 #[oR ax, oi 0, oi 1, oR b1, oi 1, .unset] [(.int (1 : Int32)), (.int (1 : Int32))])) (fun _ k => XS.iloadN X2.here hx rfl (hb hby d6_16) rfl k) ?_
  have hc4 : (1 : Int32) = (1 : Int32) := by decide
  refine own_go (st' := T2.setTop (mkF m 57 #[oR ax, oi 0, oi 1, oR b1, oi 1, .unset] [])) (fun _ k => XS.icmpYes X2.here hx rfl (pc0 := 17) (pc' := 57) rfl (hb hby d6_17) rfl (teq hc4).1 (by decide) (by decide) k) ?_
  refine own_go (st' := T2.setTop (mkF m 58 #[oR ax, oi 0, oi 1, oR b1, oi 1, .unset] [(.ref b1)])) (fun _ k => XS.aloadN X2.here hx rfl (hb hby d6_57) rfl rfl k) ?_
  obtain ⟨fs, hr, hrun, hended, hW, hsame⟩ := X2.leave (v := some (.ref b1)) (fun h => by rw [Bd.returns] at h; cases h)
  refine ⟨_, _, ?_, hP _ _ hrun hended ⟨_, _, rfl, ?_, ⟨_, rfl⟩, hW, hsame.mono (by decide) (by decide)⟩⟩
  · exact retOut X2 hx Bd.returns rfl (Or.inr (Or.inr (Or.inr (Or.inr ⟨rfl, rfl, rfl⟩)))) (hb hby d6_58) hr
  · show Qrcq_1 Z ax ka u0 h0 n0 _ T2.heap _
    rw [e2]
    exact ⟨b1, k1, rfl, N2, (((Keep.refl h0 []).ext E1).trans K2 (allS (P := fun x => x ∈ [] ∨ h0.size ≤ x) (Or.inr (by omega)) all0)), g2_0, (by omega)⟩
theorem d8_0 : decode jdk_52_method_15_code 0 = .ok (.iload_n 1, 1) := by decide +kernel
theorem d8_1 : decode jdk_52_method_15_code 1 = .ok (.aload_n 0, 1) := by decide +kernel
theorem d8_2 : decode jdk_52_method_15_code 2 = .ok (.arraylength, 1) := by decide +kernel
theorem d8_3 : decode jdk_52_method_15_code 3 = .ok (.isub, 1) := by decide +kernel
theorem d8_4 : decode jdk_52_method_15_code 4 = .ok (.bipush 31, 2) := by decide +kernel
theorem d8_6 : decode jdk_52_method_15_code 6 = .ok (.iushr, 1) := by decide +kernel
theorem d8_7 : decode jdk_52_method_15_code 7 = .ok (.i2b, 1) := by decide +kernel
theorem d8_8 : decode jdk_52_method_15_code 8 = .ok (.ireturn, 1) := by decide +kernel
theorem pn_8 : plainName "java/lang/StringUTF16" = true := by first | (simp [plainName, overriddenIn]; done) | decide +kernel
theorem ef_rcd_1 (m : MethodId) (x0 : Addr) (x1 : Int32) : entryFrame m #[(.ref x0), (.int x1)] 2 = mkF m 0 #[.val (.ref x0), .val (.int x1)] [] := by first | (simp [entryFrame, mkF, argsToLocals, Value.category]; done) | rfl
def Qrcd_1 (Z : State) (ax : Addr) (ka : ClassId) (vs : List Value) (h0 : Heap) (n0 : Nat) (v : Option Value) (h : Heap) (L : List Loc) : Prop := (v = some (.int (0 : Int32))) ∧ (Fr n0 L) ∧ (h = h0)
set_option maxRecDepth 65536 in
set_option maxHeartbeats 40000000 in
theorem rcd_1 (l : Launch) (Z : State) (a0 : Array Value) (hw : ∀ d ∈ tables_1, d.before a0 Z = true) (ws : List Jvm.Cond) (ax : Addr) (ka : ClassId) (vs : List Value) (h0 : Heap) (n0 : Nat) (Z0 : n0 ≤ h0.size) (pr1 : Arv Z h0 ax ka .byte (1 : Int32) vs (.int (0 : Int32))) :
    MetFree l oM8 (head1 (Jvm.Cond.code oM8 jdk_52_method_15_code 2 (some .byte) :: ws) ({ frames := 0, cells := 0, slots := 0, locals := 0 } : Room)) (fun a U => a = #[(.ref ax), (.int (1 : Int32))] ∧ Z.Warmed39 U.vm ∧ U.heap = h0) (fun _ _ _ _ _ => True) (fun _ U o U' => ∃ v L, o = .returned v ∧ Qrcd_1 Z ax ka vs h0 n0 v U'.heap L ∧ FrameEnd U o U' L ({ frames := 0, cells := 0, slots := 0, locals := 0 } : Room).cells ({ frames := 0, cells := 0, slots := 0, locals := 0 } : Room).slots) := by
  refine MetFree.of_bodySF (plainFor_of_name pn_8) hisR ?_
  intro p e s m args below meth c s₁ Bd hml0 hP0 hK
  obtain ⟨rfl, hZ, hh⟩ := hP0
  have hx := Bd.exec
  have hby := Bd.bytes
  have hml : c.maxLocals = 2 := hml0
  have hown : s.vm.findClass oS5 = some m.cls := findClass_of_methodNamed Bd.named
  have hnm := (name_of_methodNamed Bd.named Bd.method).1
  have X0 : Stand p l e ({ frames := 0, cells := 0, slots := 0, locals := 0 } : Room) s m #[(.ref ax), (.int (1 : Int32))] below meth c s₁ [] 0 0 := Stand.of_body Bd
  have e0 : s₁.heap = h0 := by rw [← hh, Bd.state]; rfl
  have N0 := Fr.nil n0
  suffices own_H : ∀ (P : State → Outcome → Prop), (∀ U o, U.status = .running → Ended U below o → (∃ v L, o = .returned v ∧ Qrcd_1 Z ax ka vs h0 n0 v U.heap L ∧ FrameEnd s o U L ({ frames := 0, cells := 0, slots := 0, locals := 0 } : Room).cells ({ frames := 0, cells := 0, slots := 0, locals := 0 } : Room).slots) → P U o) → own_Go p.tables e below P (s₁.setTop (mkF m 0 #[oR ax, oi 1] [])) from own_go (fun _ k => castTop (ef_rcd_1 m ax (1 : Int32)) k) (own_H _ (fun U o h1 h2 h3 => ⟨h1, h2, h3⟩))
  intro P hP
  have lt_ax : @LT.lt Nat _ ax h0.size := pr1.lt
  refine own_go (st' := s₁.setTop (mkF m 1 #[oR ax, oi 1] [(.int (1 : Int32))])) (fun _ k => XS.iloadN X0.here hx rfl (hb hby d8_0) rfl k) ?_
  refine own_go (st' := s₁.setTop (mkF m 2 #[oR ax, oi 1] [(.ref ax), (.int (1 : Int32))])) (fun _ k => XS.aloadN X0.here hx rfl (hb hby d8_1) rfl rfl k) ?_
  obtain ⟨cl1, Ar1, -, S1, M1, -, -⟩ := id pr1
  refine own_go (st' := s₁.setTop (mkF m 3 #[oR ax, oi 1] [(.int (1 : Int32)), (.int (1 : Int32))])) (fun t k => X0.arraylength hx (by rw [e0]; exact Ar1.1) (State.isArrayOf_alike hZ.alike Ar1.2.1) (g := (mkF m 2 #[oR ax, oi 1] [(.ref ax), (.int (1 : Int32))])) rfl rfl (hb hby d8_2) t (by rw [len_of S1 M1]; exact k)) ?_
  refine own_go (st' := s₁.setTop (mkF m 4 #[oR ax, oi 1] [(.int (0 : Int32))])) (fun _ k => XS.isub X0.here hx rfl (hb hby d8_3) rfl (by rw [show ((1 : Int32) - (1 : Int32)) = (0 : Int32) by decide]; exact k)) ?_
  refine own_go (st' := s₁.setTop (mkF m 6 #[oR ax, oi 1] [(.int (31 : Int32)), (.int (0 : Int32))])) (fun _ k => XS.bipush X0.here hx rfl (hb hby d8_4) k) ?_
  refine own_go (st' := s₁.setTop (mkF m 7 #[oR ax, oi 1] [(.int (((0 : Int32).toUInt32 >>> ((31 : Int32) &&& 31).toUInt32).toInt32))])) (fun _ k => XS.iushr X0.here hx rfl (hb hby d8_6) rfl k) ?_
  refine own_go (st' := s₁.setTop (mkF m 8 #[oR ax, oi 1] [(.int (((0 : Int32).toUInt32 >>> ((31 : Int32) &&& 31).toUInt32).toInt32).toInt8.toInt32)])) (fun _ k => XS.i2b X0.here hx rfl (hb hby d8_7) rfl k) ?_
  obtain ⟨fs, hr, hrun, hended, hW, hsame⟩ := X0.leave (v := some (.int (nar .byte (((0 : Int32).toUInt32 >>> ((31 : Int32) &&& 31).toUInt32).toInt32).toInt8.toInt32))) (fun h => by rw [Bd.returns] at h; cases h)
  refine ⟨_, _, ?_, hP _ _ hrun hended ⟨_, _, rfl, ?_, ⟨_, rfl⟩, hW, hsame.mono (by decide) (by decide)⟩⟩
  · exact retN X0 hx (t := .byte) Bd.returns (by simp) (hb hby d8_8) hr
  · show Qrcd_1 Z ax ka vs h0 n0 _ s₁.heap _
    rw [e0]
    exact ⟨(congrArg (fun z => some (Value.int z)) (by decide +kernel)), N0, rfl⟩
theorem pd_1 : parseMethodDescriptor "([CII)[B" = some ⟨[(.array .char), .int, .int], some (.array .byte)⟩ := by decide +kernel
theorem pd_2 : parseMethodDescriptor "([BI)B" = some ⟨[(.array .byte), .int], some .byte⟩ := by decide +kernel
theorem d4_0 : decode jdk_42_method_149_code 0 = .ok (.aload_n 0, 1) := by decide +kernel
theorem d4_1 : decode jdk_42_method_149_code 1 = .ok (.invokespecial 1, 3) := by decide +kernel
theorem d4_4 : decode jdk_42_method_149_code 4 = .ok (.iload_n 3, 1) := by decide +kernel
theorem d4_5 : decode jdk_42_method_149_code 5 = .ok (.ifCond .ne 22, 3) := by decide +kernel
theorem d4_27 : decode jdk_42_method_149_code 27 = .ok (.getstatic 38, 3) := by decide +kernel
theorem d4_30 : decode jdk_42_method_149_code 30 = .ok (.ifCond .eq 28, 3) := by decide +kernel
theorem d4_33 : decode jdk_42_method_149_code 33 = .ok (.aload_n 1, 1) := by decide +kernel
theorem d4_34 : decode jdk_42_method_149_code 34 = .ok (.iload_n 2, 1) := by decide +kernel
theorem d4_35 : decode jdk_42_method_149_code 35 = .ok (.iload_n 3, 1) := by decide +kernel
theorem d4_36 : decode jdk_42_method_149_code 36 = .ok (.invokestatic 177, 3) := by decide +kernel
theorem d4_39 : decode jdk_42_method_149_code 39 = .ok (.astore 5, 2) := by decide +kernel
theorem d4_41 : decode jdk_42_method_149_code 41 = .ok (.aload_n 0, 1) := by decide +kernel
theorem d4_42 : decode jdk_42_method_149_code 42 = .ok (.aload 5, 2) := by decide +kernel
theorem d4_44 : decode jdk_42_method_149_code 44 = .ok (.iload_n 3, 1) := by decide +kernel
theorem d4_45 : decode jdk_42_method_149_code 45 = .ok (.invokestatic 47, 3) := by decide +kernel
theorem d4_48 : decode jdk_42_method_149_code 48 = .ok (.putfield 15, 3) := by decide +kernel
theorem d4_51 : decode jdk_42_method_149_code 51 = .ok (.aload_n 0, 1) := by decide +kernel
theorem d4_52 : decode jdk_42_method_149_code 52 = .ok (.aload 5, 2) := by decide +kernel
theorem d4_54 : decode jdk_42_method_149_code 54 = .ok (.putfield 9, 3) := by decide +kernel
theorem d4_57 : decode jdk_42_method_149_code 57 = .ok (.return_, 1) := by decide +kernel
theorem pn_4 : plainName "java/lang/String" = true := by first | (simp [plainName, overriddenIn]; done) | decide +kernel
theorem ef_rsi_1 (m : MethodId) (x0 : Addr) (x1 : Addr) (x2 : Int32) (x3 : Int32) : entryFrame m #[(.ref x0), (.ref x1), (.int x2), (.int x3), .null] 6 = mkF m 0 #[.val (.ref x0), .val (.ref x1), .val (.int x2), .val (.int x3), .val .null, .unset] [] := by first | (simp [entryFrame, mkF, argsToLocals, Value.category]; done) | rfl
def Qrsi_1 (Z : State) (a1 : Addr) (ax : Addr) (ka : ClassId) (zc : Int32) (u0 : Int32) (h0 : Heap) (n0 : Nat) (v : Option Value) (h : Heap) (L : List Loc) : Prop := ∃ (r : Addr) (kr : ClassId), (v = none) ∧ (Fr n0 L) ∧ (Keep h0 h [a1]) ∧ (Exa Z h a1 "java/lang/String") ∧ (Fld Z h a1 "java/lang/String" "value" "[B" (.ref r)) ∧ (Fld Z h a1 "java/lang/String" "coder" "B" (.int (0 : Int32))) ∧ (Arv Z h r kr .byte (1 : Int32) [(.int (own_by u0))] (.int (0 : Int32))) ∧ (h0.size ≤ r)
set_option maxRecDepth 65536 in
set_option maxHeartbeats 40000000 in
theorem rsi_1 (l : Launch) (Z : State) (a0 : Array Value) (hw : ∀ d ∈ tables_1, d.before a0 Z = true) (ws : List Jvm.Cond) (a1 : Addr) (ax : Addr) (ka : ClassId) (zc : Int32) (u0 : Int32) (h0 : Heap) (n0 : Nat) (Z0 : n0 ≤ h0.size) (pr1 : Exa Z h0 a1 oS0) (pr2 : Fld Z h0 a1 oS0 "value" "[B" .null) (pr3 : Fld Z h0 a1 oS0 "coder" "B" (.int (0 : Int32))) (pr4 : Arv Z h0 ax ka .char (1 : Int32) [(.int u0)] (.int (0 : Int32))) (pr5 : Sta Z h0 oS0 oS3 "Z" (.int zc)) (hzc : ¬ zc = (0 : Int32)) (hl_u0 : own_lat u0) (pr6 : n0 ≤ a1) (pr7 : @Ne Nat a1 ax) :
    MetFree l oM2 (head1 (Jvm.Cond.code oM2 jdk_42_method_149_code 6 none :: ws) ({ frames := 2, cells := 1, slots := 1, locals := 35 } : Room)) (fun a U => a = #[(.ref a1), (.ref ax), (.int (0 : Int32)), (.int (1 : Int32)), .null] ∧ Z.Warmed39 U.vm ∧ U.heap = h0) (fun _ _ _ _ _ => True) (fun _ U o U' => ∃ v L, o = .returned v ∧ Qrsi_1 Z a1 ax ka zc u0 h0 n0 v U'.heap L ∧ FrameEnd U o U' L ({ frames := 2, cells := 1, slots := 1, locals := 35 } : Room).cells ({ frames := 2, cells := 1, slots := 1, locals := 35 } : Room).slots) := by
  refine MetFree.of_bodySF (plainFor_of_name pn_4) hisR ?_
  intro p e s m args below meth c s₁ Bd hml0 hP0 hK
  obtain ⟨rfl, hZ, hh⟩ := hP0
  have hx := Bd.exec
  have hby := Bd.bytes
  have hml : c.maxLocals = 6 := hml0
  have hown : s.vm.findClass oS0 = some m.cls := findClass_of_methodNamed Bd.named
  have hnm := (name_of_methodNamed Bd.named Bd.method).1
  have X0 : Stand p l e ({ frames := 2, cells := 1, slots := 1, locals := 35 } : Room) s m #[(.ref a1), (.ref ax), (.int (0 : Int32)), (.int (1 : Int32)), .null] below meth c s₁ [] 0 0 := Stand.of_body Bd
  have e0 : s₁.heap = h0 := by rw [← hh, Bd.state]; rfl
  have N0 := Fr.nil n0
  suffices own_H : ∀ (P : State → Outcome → Prop), (∀ U o, U.status = .running → Ended U below o → (∃ v L, o = .returned v ∧ Qrsi_1 Z a1 ax ka zc u0 h0 n0 v U.heap L ∧ FrameEnd s o U L ({ frames := 2, cells := 1, slots := 1, locals := 35 } : Room).cells ({ frames := 2, cells := 1, slots := 1, locals := 35 } : Room).slots) → P U o) → own_Go p.tables e below P (s₁.setTop (mkF m 0 #[oR a1, oR ax, oi 0, oi 1, .val .null, .unset] [])) from own_go (fun _ k => castTop (ef_rsi_1 m a1 ax (0 : Int32) (1 : Int32)) k) (own_H _ (fun U o h1 h2 h3 => ⟨h1, h2, h3⟩))
  intro P hP
  have lt_a1 : @LT.lt Nat _ a1 h0.size := pr1.lt
  have lt_ax : @LT.lt Nat _ ax h0.size := pr4.lt
  refine own_go (st' := s₁.setTop (mkF m 1 #[oR a1, oR ax, oi 0, oi 1, .val .null, .unset] [(.ref a1)])) (fun _ k => XS.aloadN X0.here hx rfl (hb hby d4_0) rfl rfl k) ?_
  obtain ⟨T1, X1, e1, st1⟩ := initO X0 hx hZ hown (own_hw hw 18) (own_hw hw 19) (own_hw hw 20) e0 (g := (mkF m 1 #[oR a1, oR ax, oi 0, oi 1, .val .null, .unset] [(.ref a1)])) rfl (by rw [hml]; rfl) rfl (hb hby d4_1) (by decide) (W := 0) (by show 2 * 0 + _ ≤ _; exact Nat.le_of_eq rfl) (by decide)
  refine own_go (st' := T1.setTop (mkF m 4 #[oR a1, oR ax, oi 0, oi 1, .val .null, .unset] [])) (st1) ?_
  refine own_go (st' := T1.setTop (mkF m 5 #[oR a1, oR ax, oi 0, oi 1, .val .null, .unset] [(.int (1 : Int32))])) (fun _ k => XS.iloadN X1.here hx rfl (hb hby d4_4) rfl k) ?_
  have hc2 : ¬ ((1 : Int32) = (0 : Int32)) := by decide
  refine own_go (st' := T1.setTop (mkF m 27 #[oR a1, oR ax, oi 0, oi 1, .val .null, .unset] [])) (fun _ k => XS.ifYes X1.here hx rfl (pc0 := 5) (pc' := 27) rfl (hb hby d4_5) rfl ((if0 _ _).trans (feq hc2).2) (by decide) (by decide) k) ?_
  obtain ⟨T3, X3, e3, st3⟩ := getS2 X1 hx hZ hown (host := "") (Or.inl (own_hw hw 21)) Via.refl e1 pr5 (g := (mkF m 27 #[oR a1, oR ax, oi 0, oi 1, .val .null, .unset] [])) rfl (hb hby d4_27)
  refine own_go (st' := T3.setTop (mkF m 30 #[oR a1, oR ax, oi 0, oi 1, .val .null, .unset] [(.int zc)])) (st3) ?_
  have hc4 : ¬ (zc = (0 : Int32)) := hzc
  refine own_go (st' := T3.setTop (mkF m 33 #[oR a1, oR ax, oi 0, oi 1, .val .null, .unset] [])) (fun _ k => XS.ifNo X3.here hx rfl (hb hby d4_30) rfl ((if0 _ _).trans (feq hc4).1) k) ?_
  refine own_go (st' := T3.setTop (mkF m 34 #[oR a1, oR ax, oi 0, oi 1, .val .null, .unset] [(.ref ax)])) (fun _ k => XS.aloadN X3.here hx rfl (hb hby d4_33) rfl rfl k) ?_
  refine own_go (st' := T3.setTop (mkF m 35 #[oR a1, oR ax, oi 0, oi 1, .val .null, .unset] [(.int (0 : Int32)), (.ref ax)])) (fun _ k => XS.iloadN X3.here hx rfl (hb hby d4_34) rfl k) ?_
  refine own_go (st' := T3.setTop (mkF m 36 #[oR a1, oR ax, oi 0, oi 1, .val .null, .unset] [(.int (1 : Int32)), (.int (0 : Int32)), (.ref ax)])) (fun _ k => XS.iloadN X3.here hx rfl (hb hby d4_35) rfl k) ?_
  obtain ⟨_, _, ⟨T5, LC5, kC5, nC5⟩, -, X5, ⟨Lc5, hQ5, lq5, yq5, zq5⟩, st5⟩ := Jvm.LawKit.callS X3 hx (y := oM7) hown (mvT hZ (own_hw hw 22)) (mvT hZ (own_hw hw 23)) (mvT hZ (own_hw hw 24)) (mvT hZ (own_hw hw 25)) (by decide) (backOf (W := 0) (rcq_1 l Z a0 hw [] ax ka u0 h0 n0 (by omega) pr4 hl_u0) hZ (own_hw hw 25) (own_hw hw 24) (by decide) (by decide)) (g := (mkF m 36 #[oR a1, oR ax, oi 0, oi 1, .val .null, .unset] [(.int (1 : Int32)), (.int (0 : Int32)), (.ref ax)])) rfl (by rw [hml]; rfl) (argsL := [(.ref ax), (.int (0 : Int32)), (.int (1 : Int32))]) (rest := []) (lenOf pd_1 rfl) rfl (by show 2 * 0 + _ ≤ _; exact Nat.le_of_eq rfl) (hb hby d4_36) (fun _ _ => ⟨rfl, e3, (by decide : 0 + 1 ≤ _), (by decide : 0 + 1 ≤ _)⟩)
  dsimp only [Pt.U, Pt.locs, Pt.cells, Pt.slots] at X5 lq5 yq5 zq5 st5 hQ5
  subst lq5 yq5 zq5
  obtain ⟨h5, e5⟩ : ∃ z, T5.heap = z := ⟨_, rfl⟩
  rw [e5] at hQ5
  obtain ⟨r_5, kr_5, rfl, Nq5, K5, g5_0, g5_1⟩ := hQ5
  have sz5 : h0.size ≤ h5.size := K5.1
  have N5 := Fr.app N0 Nq5
  have lt5_1 : @LT.lt Nat _ r_5 h5.size := g5_0.lt
  refine own_go (st' := T5.setTop (mkF m 39 #[oR a1, oR ax, oi 0, oi 1, .val .null, .unset] [(.ref r_5)])) (fun t k => st5 t k) ?_
  refine own_go (st' := T5.setTop (mkF m 41 #[oR a1, oR ax, oi 0, oi 1, .val .null, oR r_5] [])) (fun _ k => XS.astore X5.here hx rfl (hb hby d4_39) rfl rfl (l' := #[oR a1, oR ax, oi 0, oi 1, .val .null, oR r_5]) rfl k) ?_
  refine own_go (st' := T5.setTop (mkF m 42 #[oR a1, oR ax, oi 0, oi 1, .val .null, oR r_5] [(.ref a1)])) (fun _ k => XS.aloadN X5.here hx rfl (hb hby d4_41) rfl rfl k) ?_
  refine own_go (st' := T5.setTop (mkF m 44 #[oR a1, oR ax, oi 0, oi 1, .val .null, oR r_5] [(.ref r_5), (.ref a1)])) (fun _ k => XS.aload X5.here hx rfl (hb hby d4_42) rfl rfl k) ?_
  refine own_go (st' := T5.setTop (mkF m 45 #[oR a1, oR ax, oi 0, oi 1, .val .null, oR r_5] [(.int (1 : Int32)), (.ref r_5), (.ref a1)])) (fun _ k => XS.iloadN X5.here hx rfl (hb hby d4_44) rfl k) ?_
  obtain ⟨_, _, ⟨T6, LC6, kC6, nC6⟩, -, X6, ⟨Lc6, hQ6, lq6, yq6, zq6⟩, st6⟩ := Jvm.LawKit.callS X5 hx (y := oM8) hown (mvT hZ (own_hw hw 30)) (mvT hZ (own_hw hw 31)) (mvT hZ (own_hw hw 24)) (mvT hZ (own_hw hw 32)) (by decide) (backOf (W := 1) (rcd_1 l Z a0 hw [] r_5 kr_5 [(.int (own_by u0))] h5 n0 (by omega) g5_0) hZ (own_hw hw 32) (own_hw hw 24) (by decide) (by decide)) (g := (mkF m 45 #[oR a1, oR ax, oi 0, oi 1, .val .null, oR r_5] [(.int (1 : Int32)), (.ref r_5), (.ref a1)])) rfl (by rw [hml]; rfl) (argsL := [(.ref r_5), (.int (1 : Int32))]) (rest := [(.ref a1)]) (lenOf pd_2 rfl) rfl (by show 2 * 0 + _ ≤ _; exact Nat.le_of_eq rfl) (hb hby d4_45) (fun _ _ => ⟨rfl, e5, (by decide : 1 + 0 ≤ _), (by decide : 1 + 0 ≤ _)⟩)
  dsimp only [Pt.U, Pt.locs, Pt.cells, Pt.slots] at X6 lq6 yq6 zq6 st6 hQ6
  subst lq6 yq6 zq6
  obtain ⟨rfl, Nq6, eq6⟩ := hQ6
  have N6 := Fr.app N5 Nq6
  refine own_go (st' := T6.setTop (mkF m 48 #[oR a1, oR ax, oi 0, oi 1, .val .null, oR r_5] [(.int (0 : Int32)), (.ref a1)])) (fun t k => st6 t k) ?_
  have c7 : Fld Z h5 a1 oS0 "coder" "B" (.int (0 : Int32)) := (pr3.keep K5 nin0)
  have c8 : Exa Z h5 a1 oS0 := (pr1.keep K5)
  obtain ⟨T9, h9, X9, e9, W9, st9⟩ := putFN X6 hx hZ hown (own_hw hw 33) Via.refl eq6 c7 c8 (Or.inr ⟨(own_hw hw 34), rfl, hnm⟩) (own_hw hw 8) (ty := .byte) (v' := (.int (0 : Int32))) (by decide) rfl rfl (g := (mkF m 48 #[oR a1, oR ax, oi 0, oi 1, .val .null, oR r_5] [(.int (0 : Int32)), (.ref a1)])) rfl rfl (hb hby d4_48)
  have sz9 : h9.size = h5.size := W9.size
  have N9 := Fr.snoc X9 N6 (by omega)
  have f9 : Fld Z h9 a1 oS0 "coder" "B" (.int (0 : Int32)) := c7.same W9
  refine own_go (st' := T9.setTop (mkF m 51 #[oR a1, oR ax, oi 0, oi 1, .val .null, oR r_5] [])) (st9) ?_
  refine own_go (st' := T9.setTop (mkF m 52 #[oR a1, oR ax, oi 0, oi 1, .val .null, oR r_5] [(.ref a1)])) (fun _ k => XS.aloadN X9.here hx rfl (hb hby d4_51) rfl rfl k) ?_
  refine own_go (st' := T9.setTop (mkF m 54 #[oR a1, oR ax, oi 0, oi 1, .val .null, oR r_5] [(.ref r_5), (.ref a1)])) (fun _ k => XS.aload X9.here hx rfl (hb hby d4_52) rfl rfl k) ?_
  have c10 : Fld Z h9 a1 oS0 "value" "[B" .null := ((pr2.keep K5 nin0).other W9 (Or.inr (slot_ne (Or.inr (own_hw hw 36)) (Or.inr (own_hw hw 34)) (by decide) (t := (.array .byte)) (t' := .byte) (by decide) (by decide))))
  have c11 : Exa Z h9 a1 oS0 := (c8.wr W9)
  obtain ⟨T12, h12, X12, e12, W12, st12⟩ := putF X9 hx hZ hown (host := "") (Or.inl (own_hw hw 35)) Via.refl e9 c10 c11 (Or.inr ⟨(own_hw hw 36), rfl, hnm⟩) (own_hw hw 8) (ty := (.array .byte)) (by decide) rfl rfl (g := (mkF m 54 #[oR a1, oR ax, oi 0, oi 1, .val .null, oR r_5] [(.ref r_5), (.ref a1)])) rfl rfl (hb hby d4_54)
  have sz12 : h12.size = h9.size := W12.size
  have N12 := Fr.snoc X12 N9 (by omega)
  have f12 : Fld Z h12 a1 oS0 "value" "[B" (.ref r_5) := c10.same W12
  refine own_go (st' := T12.setTop (mkF m 57 #[oR a1, oR ax, oi 0, oi 1, .val .null, oR r_5] [])) (st12) ?_
  obtain ⟨fs, hr, hrun, hended, hW, hsame⟩ := X12.leave (v := none) (fun _ => rfl)
  refine ⟨_, _, ?_, hP _ _ hrun hended ⟨_, _, rfl, ?_, ⟨_, rfl⟩, hW, hsame.mono (by decide) (by decide)⟩⟩
  · exact X12.returnOut hx Bd.returns (hb hby d4_57) hr
  · show Qrsi_1 Z a1 ax ka zc u0 h0 n0 _ T12.heap _
    have c14 : Exa Z h12 a1 oS0 := (c11.wr W12)
    have c15 : Fld Z h12 a1 oS0 "coder" "B" (.int (0 : Int32)) := (f9.other W12 (Or.inr (slot_ne (Or.inr (own_hw hw 34)) (Or.inr (own_hw hw 36)) (by decide) (t := .byte) (t' := (.array .byte)) (by decide) (by decide))))
    have c16 : Arv Z h12 r_5 kr_5 .byte (1 : Int32) [(.int (own_by u0))] (.int (0 : Int32)) := ((g5_0.other W9 (own_ne (by omega))).other W12 (own_ne (by omega)))
    rw [e12]
    exact ⟨r_5, kr_5, rfl, N12, ((((Keep.refl h0 [a1]).trans K5 all0).wr W9 (Or.inl (List.mem_of_getElem? (i := 0) rfl))).wr W12 (Or.inl (List.mem_of_getElem? (i := 0) rfl))), c14, f12, c15, c16, (by omega)⟩
theorem pd_3 : parseMethodDescriptor "([CIILjava/lang/Void;)V" = some ⟨[(.array .char), .int, .int, (.object "java/lang/Void")], none⟩ := by decide +kernel
theorem d3_0 : decode jdk_42_method_3_code 0 = .ok (.aload_n 0, 1) := by decide +kernel
theorem d3_1 : decode jdk_42_method_3_code 1 = .ok (.aload_n 1, 1) := by decide +kernel
theorem d3_2 : decode jdk_42_method_3_code 2 = .ok (.iconst 0, 1) := by decide +kernel
theorem d3_3 : decode jdk_42_method_3_code 3 = .ok (.aload_n 1, 1) := by decide +kernel
theorem d3_4 : decode jdk_42_method_3_code 4 = .ok (.arraylength, 1) := by decide +kernel
theorem d3_5 : decode jdk_42_method_3_code 5 = .ok (.aconst_null, 1) := by decide +kernel
theorem d3_6 : decode jdk_42_method_3_code 6 = .ok (.invokespecial 27, 3) := by decide +kernel
theorem d3_9 : decode jdk_42_method_3_code 9 = .ok (.return_, 1) := by decide +kernel
theorem pn_3 : plainName "java/lang/String" = true := by first | (simp [plainName, overriddenIn]; done) | decide +kernel
theorem ef_rsc_1 (m : MethodId) (x0 : Addr) (x1 : Addr) : entryFrame m #[(.ref x0), (.ref x1)] 2 = mkF m 0 #[.val (.ref x0), .val (.ref x1)] [] := by first | (simp [entryFrame, mkF, argsToLocals, Value.category]; done) | rfl
def Qrsc_1 (Z : State) (a1 : Addr) (ax : Addr) (ka : ClassId) (zc : Int32) (u0 : Int32) (h0 : Heap) (n0 : Nat) (v : Option Value) (h : Heap) (L : List Loc) : Prop := ∃ (r : Addr) (kr : ClassId), (v = none) ∧ (Fr n0 L) ∧ (Keep h0 h [a1]) ∧ (Exa Z h a1 "java/lang/String") ∧ (Fld Z h a1 "java/lang/String" "value" "[B" (.ref r)) ∧ (Fld Z h a1 "java/lang/String" "coder" "B" (.int (0 : Int32))) ∧ (Arv Z h r kr .byte (1 : Int32) [(.int (own_by u0))] (.int (0 : Int32))) ∧ (h0.size ≤ r)
set_option maxRecDepth 65536 in
set_option maxHeartbeats 40000000 in
theorem rsc_1 (l : Launch) (Z : State) (a0 : Array Value) (hw : ∀ d ∈ tables_1, d.before a0 Z = true) (ws : List Jvm.Cond) (a1 : Addr) (ax : Addr) (ka : ClassId) (zc : Int32) (u0 : Int32) (h0 : Heap) (n0 : Nat) (Z0 : n0 ≤ h0.size) (pr1 : Exa Z h0 a1 oS0) (pr2 : Fld Z h0 a1 oS0 "value" "[B" .null) (pr3 : Fld Z h0 a1 oS0 "coder" "B" (.int (0 : Int32))) (pr4 : Arv Z h0 ax ka .char (1 : Int32) [(.int u0)] (.int (0 : Int32))) (pr5 : Sta Z h0 oS0 oS3 "Z" (.int zc)) (hzc : ¬ zc = (0 : Int32)) (hl_u0 : own_lat u0) (pr6 : n0 ≤ a1) (pr7 : @Ne Nat a1 ax) :
    MetFree l oM3 (head1 (Jvm.Cond.code oM3 jdk_42_method_3_code 2 none :: ws) ({ frames := 3, cells := 1, slots := 1, locals := 52 } : Room)) (fun a U => a = #[(.ref a1), (.ref ax)] ∧ Z.Warmed39 U.vm ∧ U.heap = h0) (fun _ _ _ _ _ => True) (fun _ U o U' => ∃ v L, o = .returned v ∧ Qrsc_1 Z a1 ax ka zc u0 h0 n0 v U'.heap L ∧ FrameEnd U o U' L ({ frames := 3, cells := 1, slots := 1, locals := 52 } : Room).cells ({ frames := 3, cells := 1, slots := 1, locals := 52 } : Room).slots) := by
  refine MetFree.of_bodySF (plainFor_of_name pn_3) hisR ?_
  intro p e s m args below meth c s₁ Bd hml0 hP0 hK
  obtain ⟨rfl, hZ, hh⟩ := hP0
  have hx := Bd.exec
  have hby := Bd.bytes
  have hml : c.maxLocals = 2 := hml0
  have hown : s.vm.findClass oS0 = some m.cls := findClass_of_methodNamed Bd.named
  have hnm := (name_of_methodNamed Bd.named Bd.method).1
  have X0 : Stand p l e ({ frames := 3, cells := 1, slots := 1, locals := 52 } : Room) s m #[(.ref a1), (.ref ax)] below meth c s₁ [] 0 0 := Stand.of_body Bd
  have e0 : s₁.heap = h0 := by rw [← hh, Bd.state]; rfl
  have N0 := Fr.nil n0
  suffices own_H : ∀ (P : State → Outcome → Prop), (∀ U o, U.status = .running → Ended U below o → (∃ v L, o = .returned v ∧ Qrsc_1 Z a1 ax ka zc u0 h0 n0 v U.heap L ∧ FrameEnd s o U L ({ frames := 3, cells := 1, slots := 1, locals := 52 } : Room).cells ({ frames := 3, cells := 1, slots := 1, locals := 52 } : Room).slots) → P U o) → own_Go p.tables e below P (s₁.setTop (mkF m 0 #[oR a1, oR ax] [])) from own_go (fun _ k => castTop (ef_rsc_1 m a1 ax) k) (own_H _ (fun U o h1 h2 h3 => ⟨h1, h2, h3⟩))
  intro P hP
  have lt_a1 : @LT.lt Nat _ a1 h0.size := pr1.lt
  have lt_ax : @LT.lt Nat _ ax h0.size := pr4.lt
  refine own_go (st' := s₁.setTop (mkF m 1 #[oR a1, oR ax] [(.ref a1)])) (fun _ k => XS.aloadN X0.here hx rfl (hb hby d3_0) rfl rfl k) ?_
  refine own_go (st' := s₁.setTop (mkF m 2 #[oR a1, oR ax] [(.ref ax), (.ref a1)])) (fun _ k => XS.aloadN X0.here hx rfl (hb hby d3_1) rfl rfl k) ?_
  refine own_go (st' := s₁.setTop (mkF m 3 #[oR a1, oR ax] [(.int (0 : Int32)), (.ref ax), (.ref a1)])) (fun _ k => XS.iconst X0.here hx rfl (hb hby d3_2) k) ?_
  refine own_go (st' := s₁.setTop (mkF m 4 #[oR a1, oR ax] [(.ref ax), (.int (0 : Int32)), (.ref ax), (.ref a1)])) (fun _ k => XS.aloadN X0.here hx rfl (hb hby d3_3) rfl rfl k) ?_
  obtain ⟨cl1, Ar1, -, S1, M1, -, -⟩ := id pr4
  refine own_go (st' := s₁.setTop (mkF m 5 #[oR a1, oR ax] [(.int (1 : Int32)), (.int (0 : Int32)), (.ref ax), (.ref a1)])) (fun t k => X0.arraylength hx (by rw [e0]; exact Ar1.1) (State.isArrayOf_alike hZ.alike Ar1.2.1) (g := (mkF m 4 #[oR a1, oR ax] [(.ref ax), (.int (0 : Int32)), (.ref ax), (.ref a1)])) rfl rfl (hb hby d3_4) t (by rw [len_of S1 M1]; exact k)) ?_
  refine own_go (st' := s₁.setTop (mkF m 6 #[oR a1, oR ax] [.null, (.int (1 : Int32)), (.int (0 : Int32)), (.ref ax), (.ref a1)])) (fun _ k => XS.aconstNull X0.here hx rfl (hb hby d3_5) k) ?_
  obtain ⟨_, _, ⟨T2, LC2, kC2, nC2⟩, -, X2, ⟨Lc2, hQ2, lq2, yq2, zq2⟩, st2⟩ := X0.specialBack hx (y := oM2) rfl hown (mvT hZ (own_hw hw 14)) (mvT hZ (own_hw hw 15)) (mvT hZ (own_hw hw 17)) (by decide) (backOf (W := 0) (rsi_1 l Z a0 hw [] a1 ax ka zc u0 h0 n0 (by omega) pr1 pr2 pr3 pr4 pr5 (by assumption) hl_u0 (by omega) (own_ne (by omega))) hZ (own_hw hw 17) (own_hw hw 9) (by decide) (by decide)) (g := (mkF m 6 #[oR a1, oR ax] [.null, (.int (1 : Int32)), (.int (0 : Int32)), (.ref ax), (.ref a1)])) rfl (by rw [hml]; rfl) (Steps.refl _) (a := a1) (argsL := [(.ref ax), (.int (0 : Int32)), (.int (1 : Int32)), .null]) (rest := []) (lenOf pd_3 rfl) rfl (by show 2 * 0 + _ ≤ _; exact Nat.le_of_eq rfl) (hb hby d3_6) (fun _ _ => ⟨rfl, e0, (by decide : 0 + 1 ≤ _), (by decide : 0 + 1 ≤ _)⟩)
  dsimp only [Pt.U, Pt.locs, Pt.cells, Pt.slots] at X2 lq2 yq2 zq2 st2 hQ2
  subst lq2 yq2 zq2
  obtain ⟨h2, e2⟩ : ∃ z, T2.heap = z := ⟨_, rfl⟩
  rw [e2] at hQ2
  obtain ⟨r_2, kr_2, rfl, Nq2, K2, g2_0, g2_1, g2_2, g2_3, g2_4⟩ := hQ2
  have sz2 : h0.size ≤ h2.size := K2.1
  have N2 := Fr.app N0 Nq2
  have lt2_1 : @LT.lt Nat _ a1 h2.size := g2_0.lt
  have lt2_2 : @LT.lt Nat _ r_2 h2.size := g2_3.lt
  refine own_go (st' := T2.setTop (mkF m 9 #[oR a1, oR ax] [])) (fun _ k => st2.trans k) ?_
  obtain ⟨fs, hr, hrun, hended, hW, hsame⟩ := X2.leave (v := none) (fun _ => rfl)
  refine ⟨_, _, ?_, hP _ _ hrun hended ⟨_, _, rfl, ?_, ⟨_, rfl⟩, hW, hsame.mono (by decide) (by decide)⟩⟩
  · exact X2.returnOut hx Bd.returns (hb hby d3_9) hr
  · show Qrsc_1 Z a1 ax ka zc u0 h0 n0 _ T2.heap _
    rw [e2]
    exact ⟨r_2, kr_2, rfl, N2, ((Keep.refl h0 [a1]).trans K2 (allS (P := fun x => x ∈ [a1] ∨ h0.size ≤ x) (Or.inl (List.mem_of_getElem? (i := 0) rfl)) all0)), g2_0, g2_1, g2_2, g2_3, (by omega)⟩
theorem ef_rcp_2 (m : MethodId) (x0 : Addr) (x1 : Int32) (x2 : Addr) (x3 : Int32) (x4 : Int32) : entryFrame m #[(.ref x0), (.int x1), (.ref x2), (.int x3), (.int x4)] 7 = mkF m 0 #[.val (.ref x0), .val (.int x1), .val (.ref x2), .val (.int x3), .val (.int x4), .unset, .unset] [] := by first | (simp [entryFrame, mkF, argsToLocals, Value.category]; done) | rfl
def Qrcp_2 (Z : State) (ax : Addr) (ka : ClassId) (ay : Addr) (kb : ClassId) (u0 : Int32) (u1 : Int32) (h0 : Heap) (n0 : Nat) (v : Option Value) (h : Heap) (L : List Loc) : Prop := (v = some (.int (2 : Int32))) ∧ (Fr n0 L) ∧ (Keep h0 h [ay]) ∧ (Arv Z h ay kb .byte (2 : Int32) [(.int (own_by u0)), (.int (own_by u1))] (.int (0 : Int32)))
set_option maxRecDepth 65536 in
set_option maxHeartbeats 40000000 in
theorem rcp_2 (l : Launch) (Z : State) (a0 : Array Value) (hw : ∀ d ∈ tables_1, d.before a0 Z = true) (ws : List Jvm.Cond) (ax : Addr) (ka : ClassId) (ay : Addr) (kb : ClassId) (u0 : Int32) (u1 : Int32) (h0 : Heap) (n0 : Nat) (Z0 : n0 ≤ h0.size) (pr1 : Arv Z h0 ax ka .char (2 : Int32) [(.int u0), (.int u1)] (.int (0 : Int32))) (pr2 : Arv Z h0 ay kb .byte (2 : Int32) [(.int (0 : Int32)), (.int (0 : Int32))] (.int (0 : Int32))) (pr3 : n0 ≤ ay) (pr4 : @Ne Nat ax ay) (hl_u0 : own_lat u0) (hl_u1 : own_lat u1) :
    MetFree l oM6 (head1 (Jvm.Cond.code oM6 jdk_52_method_21_code 7 (some .int) :: ws) ({ frames := 0, cells := 0, slots := 0, locals := 0 } : Room)) (fun a U => a = #[(.ref ax), (.int (0 : Int32)), (.ref ay), (.int (0 : Int32)), (.int (2 : Int32))] ∧ Z.Warmed39 U.vm ∧ U.heap = h0) (fun _ _ _ _ _ => True) (fun _ U o U' => ∃ v L, o = .returned v ∧ Qrcp_2 Z ax ka ay kb u0 u1 h0 n0 v U'.heap L ∧ FrameEnd U o U' L ({ frames := 0, cells := 0, slots := 0, locals := 0 } : Room).cells ({ frames := 0, cells := 0, slots := 0, locals := 0 } : Room).slots) := by
  refine MetFree.of_bodySF (plainFor_of_name pn_7) hisR ?_
  intro p e s m args below meth c s₁ Bd hml0 hP0 hK
  obtain ⟨rfl, hZ, hh⟩ := hP0
  have hx := Bd.exec
  have hby := Bd.bytes
  have hml : c.maxLocals = 7 := hml0
  have hown : s.vm.findClass oS5 = some m.cls := findClass_of_methodNamed Bd.named
  have hnm := (name_of_methodNamed Bd.named Bd.method).1
  have X0 : Stand p l e ({ frames := 0, cells := 0, slots := 0, locals := 0 } : Room) s m #[(.ref ax), (.int (0 : Int32)), (.ref ay), (.int (0 : Int32)), (.int (2 : Int32))] below meth c s₁ [] 0 0 := Stand.of_body Bd
  have e0 : s₁.heap = h0 := by rw [← hh, Bd.state]; rfl
  have N0 := Fr.nil n0
  suffices own_H : ∀ (P : State → Outcome → Prop), (∀ U o, U.status = .running → Ended U below o → (∃ v L, o = .returned v ∧ Qrcp_2 Z ax ka ay kb u0 u1 h0 n0 v U.heap L ∧ FrameEnd s o U L ({ frames := 0, cells := 0, slots := 0, locals := 0 } : Room).cells ({ frames := 0, cells := 0, slots := 0, locals := 0 } : Room).slots) → P U o) → own_Go p.tables e below P (s₁.setTop (mkF m 0 #[oR ax, oi 0, oR ay, oi 0, oi 2, .unset, .unset] [])) from own_go (fun _ k => castTop (ef_rcp_2 m ax (0 : Int32) ay (0 : Int32) (2 : Int32)) k) (own_H _ (fun U o h1 h2 h3 => ⟨h1, h2, h3⟩))
  intro P hP
  have lt_ax : @LT.lt Nat _ ax h0.size := pr1.lt
  have lt_ay : @LT.lt Nat _ ay h0.size := pr2.lt
  refine own_go (st' := s₁.setTop (mkF m 1 #[oR ax, oi 0, oR ay, oi 0, oi 2, .unset, .unset] [(.int (0 : Int32))])) (fun _ k => XS.iconst X0.here hx rfl (hb hby d7_0) k) ?_
  refine own_go (st' := s₁.setTop (mkF m 3 #[oR ax, oi 0, oR ay, oi 0, oi 2, oi 0, .unset] [])) (fun _ k => XS.istore X0.here hx rfl (hb hby d7_1) rfl (l' := #[oR ax, oi 0, oR ay, oi 0, oi 2, oi 0, .unset]) rfl k) ?_
  refine own_go (st' := s₁.setTop (mkF m 5 #[oR ax, oi 0, oR ay, oi 0, oi 2, oi 0, .unset] [(.int (0 : Int32))])) (fun _ k => XS.iload X0.here hx rfl (hb hby d7_3) rfl k) ?_
  refine own_go (st' := s₁.setTop (mkF m 7 #[oR ax, oi 0, oR ay, oi 0, oi 2, oi 0, .unset] [(.int (2 : Int32)), (.int (0 : Int32))])) (fun _ k => XS.iload X0.here hx rfl (hb hby d7_5) rfl k) ?_
  have hc1 : (0 : Int32) < (2 : Int32) := by decide
  refine own_go (st' := s₁.setTop (mkF m 10 #[oR ax, oi 0, oR ay, oi 0, oi 2, oi 0, .unset] [])) (fun _ k => XS.icmpNo X0.here hx rfl (hb hby d7_7) rfl (tlt hc1).2.1 k) ?_
  refine own_go (st' := s₁.setTop (mkF m 11 #[oR ax, oi 0, oR ay, oi 0, oi 2, oi 0, .unset] [(.ref ax)])) (fun _ k => XS.aloadN X0.here hx rfl (hb hby d7_10) rfl rfl k) ?_
  refine own_go (st' := s₁.setTop (mkF m 12 #[oR ax, oi 0, oR ay, oi 0, oi 2, oi 0, .unset] [(.int (0 : Int32)), (.ref ax)])) (fun _ k => XS.iloadN X0.here hx rfl (hb hby d7_11) rfl k) ?_
  obtain ⟨cl2, Ar2, -, S2, M2, H2, -⟩ := id pr1
  have hin2 : ¬ ((0 : Int32) < 0 ∨ cl2.slots.size ≤ ((0 : Int32)).toNatClampNeg) := (inb_of S2 ⟨by decide, by decide⟩)
  have hat2 : cl2.slots[((0 : Int32)).toNatClampNeg]? = some (.int u0) := (H2.at hin2 rfl)
  refine own_go (st' := s₁.setTop (mkF m 13 #[oR ax, oi 0, oR ay, oi 0, oi 2, oi 0, .unset] [(.int u0)])) (X0.caload hx (j := (0 : Int32)) (v := (.int u0)) (by rw [e0]; exact Ar2.1) (State.isArrayOf_alike hZ.alike Ar2.2.1) Ar2.2.2 hin2 hat2 (g := (mkF m 12 #[oR ax, oi 0, oR ay, oi 0, oi 2, oi 0, .unset] [(.int (0 : Int32)), (.ref ax)])) rfl rfl (hb hby d7_12)) ?_
  refine own_go (st' := s₁.setTop (mkF m 15 #[oR ax, oi 0, oR ay, oi 0, oi 2, oi 0, oi u0] [])) (fun _ k => XS.istore X0.here hx rfl (hb hby d7_13) rfl (l' := #[oR ax, oi 0, oR ay, oi 0, oi 2, oi 0, oi u0]) rfl k) ?_
  refine own_go (st' := s₁.setTop (mkF m 17 #[oR ax, oi 0, oR ay, oi 0, oi 2, oi 0, oi u0] [(.int u0)])) (fun _ k => XS.iload X0.here hx rfl (hb hby d7_15) rfl k) ?_
  refine own_go (st' := s₁.setTop (mkF m 20 #[oR ax, oi 0, oR ay, oi 0, oi 2, oi 0, oi u0] [(.int (255 : Int32)), (.int u0)])) (fun _ k => XS.sipush X0.here hx rfl (hb hby d7_17) k) ?_
  have hc3 : ¬ ((255 : Int32) < u0) := (own_lat_le hl_u0)
  refine own_go (st' := s₁.setTop (mkF m 26 #[oR ax, oi 0, oR ay, oi 0, oi 2, oi 0, oi u0] [])) (fun _ k => XS.icmpYes X0.here hx rfl (pc0 := 20) (pc' := 26) rfl (hb hby d7_20) rfl (flt hc3).2.2.2 (by decide) (by decide) k) ?_
  refine own_go (st' := s₁.setTop (mkF m 27 #[oR ax, oi 0, oR ay, oi 0, oi 2, oi 0, oi u0] [(.ref ay)])) (fun _ k => XS.aloadN X0.here hx rfl (hb hby d7_26) rfl rfl k) ?_
  refine own_go (st' := s₁.setTop (mkF m 28 #[oR ax, oi 0, oR ay, oi 0, oi 2, oi 0, oi u0] [(.int (0 : Int32)), (.ref ay)])) (fun _ k => XS.iloadN X0.here hx rfl (hb hby d7_27) rfl k) ?_
  refine own_go (st' := s₁.setTop (mkF m 30 #[oR ax, oi 0, oR ay, oi 0, oi 2, oi 0, oi u0] [(.int u0), (.int (0 : Int32)), (.ref ay)])) (fun _ k => XS.iload X0.here hx rfl (hb hby d7_28) rfl k) ?_
  refine own_go (st' := s₁.setTop (mkF m 31 #[oR ax, oi 0, oR ay, oi 0, oi 2, oi 0, oi u0] [(.int u0.toInt8.toInt32), (.int (0 : Int32)), (.ref ay)])) (fun _ k => XS.i2b X0.here hx rfl (hb hby d7_30) rfl k) ?_
  obtain ⟨cl4, Ar4, qc4, S4, M4, H4, G4⟩ := id pr2
  have hin4 : ¬ ((0 : Int32) < 0 ∨ cl4.slots.size ≤ ((0 : Int32)).toNatClampNeg) := (inb_of S4 ⟨by decide, by decide⟩)
  obtain ⟨T4, h4, X4, e4, W4, st4⟩ := stB X0 hx hZ e0 Ar4 (j := (0 : Int32)) hin4 (g := (mkF m 31 #[oR ax, oi 0, oR ay, oi 0, oi 2, oi 0, oi u0] [(.int u0.toInt8.toInt32), (.int (0 : Int32)), (.ref ay)])) rfl rfl (hb hby d7_31)
  have sz4 : h4.size = h0.size := W4.size
  have N4 := Fr.snoc X4 N0 (by omega)
  have v4 : Arv Z h4 ay kb .byte (2 : Int32) [(.int (nar .byte u0.toInt8.toInt32)), (.int (0 : Int32))] (.int (0 : Int32)) := Arv.set Ar4 qc4 S4 M4 H4 G4 (fits_nar_byte _) W4 0 rfl (Nat.le_of_ble_eq_true rfl)
  refine own_go (st' := T4.setTop (mkF m 32 #[oR ax, oi 0, oR ay, oi 0, oi 2, oi 0, oi u0] [])) (st4) ?_
  refine own_go (st' := T4.setTop (mkF m 35 #[oR ax, oi 1, oR ay, oi 0, oi 2, oi 0, oi u0] [])) (fun _ k => XS.iinc X4.here hx rfl (hb hby d7_32) rfl (l' := #[oR ax, oi 1, oR ay, oi 0, oi 2, oi 0, oi u0]) (by rw [show ((0 : Int32) + Int32.ofInt 1) = (1 : Int32) by decide]; rfl) k) ?_
  refine own_go (st' := T4.setTop (mkF m 38 #[oR ax, oi 1, oR ay, oi 1, oi 2, oi 0, oi u0] [])) (fun _ k => XS.iinc X4.here hx rfl (hb hby d7_35) rfl (l' := #[oR ax, oi 1, oR ay, oi 1, oi 2, oi 0, oi u0]) (by rw [show ((0 : Int32) + Int32.ofInt 1) = (1 : Int32) by decide]; rfl) k) ?_
  refine own_go (st' := T4.setTop (mkF m 41 #[oR ax, oi 1, oR ay, oi 1, oi 2, oi 1, oi u0] [])) (fun _ k => XS.iinc X4.here hx rfl (hb hby d7_38) rfl (l' := #[oR ax, oi 1, oR ay, oi 1, oi 2, oi 1, oi u0]) (by rw [show ((0 : Int32) + Int32.ofInt 1) = (1 : Int32) by decide]; rfl) k) ?_
  refine own_go (st' := T4.setTop (mkF m 3 #[oR ax, oi 1, oR ay, oi 1, oi 2, oi 1, oi u0] [])) (fun _ k => XS.goto X4.here hx rfl (pc0 := 41) (pc' := 3) rfl (hb hby d7_41) (by decide) (by decide) k) ?_
  refine own_go (st' := T4.setTop (mkF m 5 #[oR ax, oi 1, oR ay, oi 1, oi 2, oi 1, oi u0] [(.int (1 : Int32))])) (fun _ k => XS.iload X4.here hx rfl (hb hby d7_3) rfl k) ?_
  refine own_go (st' := T4.setTop (mkF m 7 #[oR ax, oi 1, oR ay, oi 1, oi 2, oi 1, oi u0] [(.int (2 : Int32)), (.int (1 : Int32))])) (fun _ k => XS.iload X4.here hx rfl (hb hby d7_5) rfl k) ?_
  have hc5 : (1 : Int32) < (2 : Int32) := by decide
  refine own_go (st' := T4.setTop (mkF m 10 #[oR ax, oi 1, oR ay, oi 1, oi 2, oi 1, oi u0] [])) (fun _ k => XS.icmpNo X4.here hx rfl (hb hby d7_7) rfl (tlt hc5).2.1 k) ?_
  refine own_go (st' := T4.setTop (mkF m 11 #[oR ax, oi 1, oR ay, oi 1, oi 2, oi 1, oi u0] [(.ref ax)])) (fun _ k => XS.aloadN X4.here hx rfl (hb hby d7_10) rfl rfl k) ?_
  refine own_go (st' := T4.setTop (mkF m 12 #[oR ax, oi 1, oR ay, oi 1, oi 2, oi 1, oi u0] [(.int (1 : Int32)), (.ref ax)])) (fun _ k => XS.iloadN X4.here hx rfl (hb hby d7_11) rfl k) ?_
  have c6 : Arv Z h4 ax ka .char (2 : Int32) [(.int u0), (.int u1)] (.int (0 : Int32)) := (pr1.other W4 (own_ne (by omega)))
  obtain ⟨cl7, Ar7, -, S7, M7, H7, -⟩ := id c6
  have hin7 : ¬ ((1 : Int32) < 0 ∨ cl7.slots.size ≤ ((1 : Int32)).toNatClampNeg) := (inb_of S7 ⟨by decide, by decide⟩)
  have hat7 : cl7.slots[((1 : Int32)).toNatClampNeg]? = some (.int u1) := (H7.at hin7 rfl)
  refine own_go (st' := T4.setTop (mkF m 13 #[oR ax, oi 1, oR ay, oi 1, oi 2, oi 1, oi u0] [(.int u1)])) (X4.caload hx (j := (1 : Int32)) (v := (.int u1)) (by rw [e4]; exact Ar7.1) (State.isArrayOf_alike hZ.alike Ar7.2.1) Ar7.2.2 hin7 hat7 (g := (mkF m 12 #[oR ax, oi 1, oR ay, oi 1, oi 2, oi 1, oi u0] [(.int (1 : Int32)), (.ref ax)])) rfl rfl (hb hby d7_12)) ?_
  refine own_go (st' := T4.setTop (mkF m 15 #[oR ax, oi 1, oR ay, oi 1, oi 2, oi 1, oi u1] [])) (fun _ k => XS.istore X4.here hx rfl (hb hby d7_13) rfl (l' := #[oR ax, oi 1, oR ay, oi 1, oi 2, oi 1, oi u1]) rfl k) ?_
  refine own_go (st' := T4.setTop (mkF m 17 #[oR ax, oi 1, oR ay, oi 1, oi 2, oi 1, oi u1] [(.int u1)])) (fun _ k => XS.iload X4.here hx rfl (hb hby d7_15) rfl k) ?_
  refine own_go (st' := T4.setTop (mkF m 20 #[oR ax, oi 1, oR ay, oi 1, oi 2, oi 1, oi u1] [(.int (255 : Int32)), (.int u1)])) (fun _ k => XS.sipush X4.here hx rfl (hb hby d7_17) k) ?_
  have hc8 : ¬ ((255 : Int32) < u1) := (own_lat_le hl_u1)
  refine own_go (st' := T4.setTop (mkF m 26 #[oR ax, oi 1, oR ay, oi 1, oi 2, oi 1, oi u1] [])) (fun _ k => XS.icmpYes X4.here hx rfl (pc0 := 20) (pc' := 26) rfl (hb hby d7_20) rfl (flt hc8).2.2.2 (by decide) (by decide) k) ?_
  refine own_go (st' := T4.setTop (mkF m 27 #[oR ax, oi 1, oR ay, oi 1, oi 2, oi 1, oi u1] [(.ref ay)])) (fun _ k => XS.aloadN X4.here hx rfl (hb hby d7_26) rfl rfl k) ?_
  refine own_go (st' := T4.setTop (mkF m 28 #[oR ax, oi 1, oR ay, oi 1, oi 2, oi 1, oi u1] [(.int (1 : Int32)), (.ref ay)])) (fun _ k => XS.iloadN X4.here hx rfl (hb hby d7_27) rfl k) ?_
  refine own_go (st' := T4.setTop (mkF m 30 #[oR ax, oi 1, oR ay, oi 1, oi 2, oi 1, oi u1] [(.int u1), (.int (1 : Int32)), (.ref ay)])) (fun _ k => XS.iload X4.here hx rfl (hb hby d7_28) rfl k) ?_
  refine own_go (st' := T4.setTop (mkF m 31 #[oR ax, oi 1, oR ay, oi 1, oi 2, oi 1, oi u1] [(.int u1.toInt8.toInt32), (.int (1 : Int32)), (.ref ay)])) (fun _ k => XS.i2b X4.here hx rfl (hb hby d7_30) rfl k) ?_
  obtain ⟨cl9, Ar9, qc9, S9, M9, H9, G9⟩ := id v4
  have hin9 : ¬ ((1 : Int32) < 0 ∨ cl9.slots.size ≤ ((1 : Int32)).toNatClampNeg) := (inb_of S9 ⟨by decide, by decide⟩)
  obtain ⟨T9, h9, X9, e9, W9, st9⟩ := stB X4 hx hZ e4 Ar9 (j := (1 : Int32)) hin9 (g := (mkF m 31 #[oR ax, oi 1, oR ay, oi 1, oi 2, oi 1, oi u1] [(.int u1.toInt8.toInt32), (.int (1 : Int32)), (.ref ay)])) rfl rfl (hb hby d7_31)
  have sz9 : h9.size = h4.size := W9.size
  have N9 := Fr.snoc X9 N4 (by omega)
  have v9 : Arv Z h9 ay kb .byte (2 : Int32) [(.int (nar .byte u0.toInt8.toInt32)), (.int (nar .byte u1.toInt8.toInt32))] (.int (0 : Int32)) := Arv.set Ar9 qc9 S9 M9 H9 G9 (fits_nar_byte _) W9 1 rfl (Nat.le_of_ble_eq_true rfl)
  refine own_go (st' := T9.setTop (mkF m 32 #[oR ax, oi 1, oR ay, oi 1, oi 2, oi 1, oi u1] [])) (st9) ?_
  refine own_go (st' := T9.setTop (mkF m 35 #[oR ax, oi 2, oR ay, oi 1, oi 2, oi 1, oi u1] [])) (fun _ k => XS.iinc X9.here hx rfl (hb hby d7_32) rfl (l' := #[oR ax, oi 2, oR ay, oi 1, oi 2, oi 1, oi u1]) (by rw [show ((1 : Int32) + Int32.ofInt 1) = (2 : Int32) by decide]; rfl) k) ?_
  refine own_go (st' := T9.setTop (mkF m 38 #[oR ax, oi 2, oR ay, oi 2, oi 2, oi 1, oi u1] [])) (fun _ k => XS.iinc X9.here hx rfl (hb hby d7_35) rfl (l' := #[oR ax, oi 2, oR ay, oi 2, oi 2, oi 1, oi u1]) (by rw [show ((1 : Int32) + Int32.ofInt 1) = (2 : Int32) by decide]; rfl) k) ?_
  refine own_go (st' := T9.setTop (mkF m 41 #[oR ax, oi 2, oR ay, oi 2, oi 2, oi 2, oi u1] [])) (fun _ k => XS.iinc X9.here hx rfl (hb hby d7_38) rfl (l' := #[oR ax, oi 2, oR ay, oi 2, oi 2, oi 2, oi u1]) (by rw [show ((1 : Int32) + Int32.ofInt 1) = (2 : Int32) by decide]; rfl) k) ?_
  refine own_go (st' := T9.setTop (mkF m 3 #[oR ax, oi 2, oR ay, oi 2, oi 2, oi 2, oi u1] [])) (fun _ k => XS.goto X9.here hx rfl (pc0 := 41) (pc' := 3) rfl (hb hby d7_41) (by decide) (by decide) k) ?_
  refine own_go (st' := T9.setTop (mkF m 5 #[oR ax, oi 2, oR ay, oi 2, oi 2, oi 2, oi u1] [(.int (2 : Int32))])) (fun _ k => XS.iload X9.here hx rfl (hb hby d7_3) rfl k) ?_
  refine own_go (st' := T9.setTop (mkF m 7 #[oR ax, oi 2, oR ay, oi 2, oi 2, oi 2, oi u1] [(.int (2 : Int32)), (.int (2 : Int32))])) (fun _ k => XS.iload X9.here hx rfl (hb hby d7_5) rfl k) ?_
  have hc10 : ¬ ((2 : Int32) < (2 : Int32)) := by decide
  refine own_go (st' := T9.setTop (mkF m 44 #[oR ax, oi 2, oR ay, oi 2, oi 2, oi 2, oi u1] [])) (fun _ k => XS.icmpYes X9.here hx rfl (pc0 := 7) (pc' := 44) rfl (hb hby d7_7) rfl (flt hc10).2.1 (by decide) (by decide) k) ?_
  refine own_go (st' := T9.setTop (mkF m 46 #[oR ax, oi 2, oR ay, oi 2, oi 2, oi 2, oi u1] [(.int (2 : Int32))])) (fun _ k => XS.iload X9.here hx rfl (hb hby d7_44) rfl k) ?_
  obtain ⟨fs, hr, hrun, hended, hW, hsame⟩ := X9.leave (v := some (.int (2 : Int32))) (fun h => by rw [Bd.returns] at h; cases h)
  refine ⟨_, _, ?_, hP _ _ hrun hended ⟨_, _, rfl, ?_, ⟨_, rfl⟩, hW, hsame.mono (by decide) (by decide)⟩⟩
  · exact retOut X9 hx Bd.returns rfl (Or.inl ⟨rfl, Or.inl rfl, _, rfl⟩) (hb hby d7_46) hr
  · show Qrcp_2 Z ax ka ay kb u0 u1 h0 n0 _ T9.heap _
    rw [e9]
    exact ⟨rfl, N9, (((Keep.refl h0 [ay]).wr W4 (Or.inl (List.mem_of_getElem? (i := 0) rfl))).wr W9 (Or.inl (List.mem_of_getElem? (i := 0) rfl))), v9⟩
theorem ef_rcq_2 (m : MethodId) (x0 : Addr) (x1 : Int32) (x2 : Int32) : entryFrame m #[(.ref x0), (.int x1), (.int x2)] 6 = mkF m 0 #[.val (.ref x0), .val (.int x1), .val (.int x2), .unset, .unset, .unset] [] := by first | (simp [entryFrame, mkF, argsToLocals, Value.category]; done) | rfl
def Qrcq_2 (Z : State) (ax : Addr) (ka : ClassId) (u0 : Int32) (u1 : Int32) (h0 : Heap) (n0 : Nat) (v : Option Value) (h : Heap) (L : List Loc) : Prop := ∃ (r : Addr) (kr : ClassId), (v = some (.ref r)) ∧ (Fr n0 L) ∧ (Keep h0 h []) ∧ (Arv Z h r kr .byte (2 : Int32) [(.int (own_by u0)), (.int (own_by u1))] (.int (0 : Int32))) ∧ (h0.size ≤ r)
set_option maxRecDepth 65536 in
set_option maxHeartbeats 40000000 in
theorem rcq_2 (l : Launch) (Z : State) (a0 : Array Value) (hw : ∀ d ∈ tables_1, d.before a0 Z = true) (ws : List Jvm.Cond) (ax : Addr) (ka : ClassId) (u0 : Int32) (u1 : Int32) (h0 : Heap) (n0 : Nat) (Z0 : n0 ≤ h0.size) (pr1 : Arv Z h0 ax ka .char (2 : Int32) [(.int u0), (.int u1)] (.int (0 : Int32))) (hl_u0 : own_lat u0) (hl_u1 : own_lat u1) :
    MetFree l oM7 (head1 (Jvm.Cond.code oM7 jdk_52_method_16_code 6 (some (.array .byte)) :: ws) ({ frames := 1, cells := 1, slots := 2, locals := 18 } : Room)) (fun a U => a = #[(.ref ax), (.int (0 : Int32)), (.int (2 : Int32))] ∧ Z.Warmed39 U.vm ∧ U.heap = h0) (fun _ _ _ _ _ => True) (fun _ U o U' => ∃ v L, o = .returned v ∧ Qrcq_2 Z ax ka u0 u1 h0 n0 v U'.heap L ∧ FrameEnd U o U' L ({ frames := 1, cells := 1, slots := 2, locals := 18 } : Room).cells ({ frames := 1, cells := 1, slots := 2, locals := 18 } : Room).slots) := by
  refine MetFree.of_bodySF (plainFor_of_name pn_6) hisR ?_
  intro p e s m args below meth c s₁ Bd hml0 hP0 hK
  obtain ⟨rfl, hZ, hh⟩ := hP0
  have hx := Bd.exec
  have hby := Bd.bytes
  have hml : c.maxLocals = 6 := hml0
  have hown : s.vm.findClass oS5 = some m.cls := findClass_of_methodNamed Bd.named
  have hnm := (name_of_methodNamed Bd.named Bd.method).1
  have X0 : Stand p l e ({ frames := 1, cells := 1, slots := 2, locals := 18 } : Room) s m #[(.ref ax), (.int (0 : Int32)), (.int (2 : Int32))] below meth c s₁ [] 0 0 := Stand.of_body Bd
  have e0 : s₁.heap = h0 := by rw [← hh, Bd.state]; rfl
  have N0 := Fr.nil n0
  suffices own_H : ∀ (P : State → Outcome → Prop), (∀ U o, U.status = .running → Ended U below o → (∃ v L, o = .returned v ∧ Qrcq_2 Z ax ka u0 u1 h0 n0 v U.heap L ∧ FrameEnd s o U L ({ frames := 1, cells := 1, slots := 2, locals := 18 } : Room).cells ({ frames := 1, cells := 1, slots := 2, locals := 18 } : Room).slots) → P U o) → own_Go p.tables e below P (s₁.setTop (mkF m 0 #[oR ax, oi 0, oi 2, .unset, .unset, .unset] [])) from own_go (fun _ k => castTop (ef_rcq_2 m ax (0 : Int32) (2 : Int32)) k) (own_H _ (fun U o h1 h2 h3 => ⟨h1, h2, h3⟩))
  intro P hP
  have lt_ax : @LT.lt Nat _ ax h0.size := pr1.lt
  refine own_go (st' := s₁.setTop (mkF m 1 #[oR ax, oi 0, oi 2, .unset, .unset, .unset] [(.int (2 : Int32))])) (fun _ k => XS.iloadN X0.here hx rfl (hb hby d6_0) rfl k) ?_
  obtain ⟨T1, h1, k1, X1, e1, E1, A1, st1⟩ := newP X0 hx hZ (own_hw hw 26) e0 (g := (mkF m 1 #[oR ax, oi 0, oi 2, .unset, .unset, .unset] [(.int (2 : Int32))])) rfl (hb hby d6_1) rfl (by decide) (cap := 2) (by decide) (by decide) (by decide) (by decide)
  obtain ⟨b1, g1⟩ : ∃ z, z = h0.size := ⟨_, rfl⟩
  rw [← g1] at A1 st1
  have sz1 : h0.size ≤ h1.size := E1.1
  have lt1 : @LT.lt Nat _ b1 h1.size := A1.lt
  have v1 : Arv Z h1 b1 k1 .byte (2 : Int32) [(.int (0 : Int32)), (.int (0 : Int32))] (.int (0 : Int32)) := (Arv.new A1 (by decide)).pad (pad_rep [] (.int (0 : Int32)) 2)
  refine own_go (st' := T1.setTop (mkF m 3 #[oR ax, oi 0, oi 2, .unset, .unset, .unset] [(.ref b1)])) (st1) ?_
  refine own_go (st' := T1.setTop (mkF m 4 #[oR ax, oi 0, oi 2, oR b1, .unset, .unset] [])) (fun _ k => XS.astoreN X1.here hx rfl (hb hby d6_3) rfl rfl (l' := #[oR ax, oi 0, oi 2, oR b1, .unset, .unset]) rfl k) ?_
  refine own_go (st' := T1.setTop (mkF m 5 #[oR ax, oi 0, oi 2, oR b1, .unset, .unset] [(.ref ax)])) (fun _ k => XS.aloadN X1.here hx rfl (hb hby d6_4) rfl rfl k) ?_
  refine own_go (st' := T1.setTop (mkF m 6 #[oR ax, oi 0, oi 2, oR b1, .unset, .unset] [(.int (0 : Int32)), (.ref ax)])) (fun _ k => XS.iloadN X1.here hx rfl (hb hby d6_5) rfl k) ?_
  refine own_go (st' := T1.setTop (mkF m 7 #[oR ax, oi 0, oi 2, oR b1, .unset, .unset] [(.ref b1), (.int (0 : Int32)), (.ref ax)])) (fun _ k => XS.aloadN X1.here hx rfl (hb hby d6_6) rfl rfl k) ?_
  refine own_go (st' := T1.setTop (mkF m 8 #[oR ax, oi 0, oi 2, oR b1, .unset, .unset] [(.int (0 : Int32)), (.ref b1), (.int (0 : Int32)), (.ref ax)])) (fun _ k => XS.iconst X1.here hx rfl (hb hby d6_7) k) ?_
  refine own_go (st' := T1.setTop (mkF m 9 #[oR ax, oi 0, oi 2, oR b1, .unset, .unset] [(.int (2 : Int32)), (.int (0 : Int32)), (.ref b1), (.int (0 : Int32)), (.ref ax)])) (fun _ k => XS.iloadN X1.here hx rfl (hb hby d6_8) rfl k) ?_
  have c3 : Arv Z h1 ax ka .char (2 : Int32) [(.int u0), (.int u1)] (.int (0 : Int32)) := (pr1.ext E1)
  obtain ⟨_, _, ⟨T2, LC2, kC2, nC2⟩, -, X2, ⟨Lc2, hQ2, lq2, yq2, zq2⟩, st2⟩ := Jvm.LawKit.callS X1 hx (y := oM6) hown (mvT hZ (own_hw hw 27)) (mvT hZ (own_hw hw 28)) (mvT hZ (own_hw hw 24)) (mvT hZ (own_hw hw 29)) (by decide) (backOf (W := 0) (rcp_2 l Z a0 hw [] ax ka b1 k1 u0 u1 h1 n0 (by omega) c3 v1 (by omega) (own_ne (by omega)) hl_u0 hl_u1) hZ (own_hw hw 29) (own_hw hw 24) (by decide) (by decide)) (g := (mkF m 9 #[oR ax, oi 0, oi 2, oR b1, .unset, .unset] [(.int (2 : Int32)), (.int (0 : Int32)), (.ref b1), (.int (0 : Int32)), (.ref ax)])) rfl (by rw [hml]; rfl) (argsL := [(.ref ax), (.int (0 : Int32)), (.ref b1), (.int (0 : Int32)), (.int (2 : Int32))]) (rest := []) (lenOf pd_0 rfl) rfl (by show 2 * 0 + _ ≤ _; exact Nat.le_of_eq rfl) (hb hby d6_9) (fun _ _ => ⟨rfl, e1, (by decide : 1 + 0 ≤ _), (by decide : 2 + 0 ≤ _)⟩)
  dsimp only [Pt.U, Pt.locs, Pt.cells, Pt.slots] at X2 lq2 yq2 zq2 st2 hQ2
  subst lq2 yq2 zq2
  obtain ⟨h2, e2⟩ : ∃ z, T2.heap = z := ⟨_, rfl⟩
  rw [e2] at hQ2
  obtain ⟨rfl, Nq2, K2, g2_0⟩ := hQ2
  have sz2 : h1.size ≤ h2.size := K2.1
  have N2 := Fr.app N0 Nq2
  have lt2_1 : @LT.lt Nat _ b1 h2.size := g2_0.lt
  refine own_go (st' := T2.setTop (mkF m 12 #[oR ax, oi 0, oi 2, oR b1, .unset, .unset] [(.int (2 : Int32))])) (fun t k => st2 t k) ?_
  refine own_go (st' := T2.setTop (mkF m 14 #[oR ax, oi 0, oi 2, oR b1, oi 2, .unset] [])) (fun _ k => XS.istore X2.here hx rfl (hb hby d6_12) rfl (l' := #[oR ax, oi 0, oi 2, oR b1, oi 2, .unset]) rfl k) ?_
  refine own_go (st' := T2.setTop (mkF m 16 #[oR ax, oi 0, oi 2, oR b1, oi 2, .unset] [(.int (2 : Int32))])) (fun _ k => XS.iload X2.here hx rfl (hb hby d6_14) rfl k) ?_
  refine own_go (st' := T2.setTop (mkF m 17 #[oR ax, oi 0, oi 2, oR b1, oi 2, .unset] [(.int (2 : Int32)), (.int (2 : Int32))])) (fun _ k => XS.iloadN X2.here hx rfl (hb hby d6_16) rfl k) ?_
  have hc4 : (2 : Int32) = (2 : Int32) := by decide
  refine own_go (st' := T2.setTop (mkF m 57 #[oR ax, oi 0, oi 2, oR b1, oi 2, .unset] [])) (fun _ k => XS.icmpYes X2.here hx rfl (pc0 := 17) (pc' := 57) rfl (hb hby d6_17) rfl (teq hc4).1 (by decide) (by decide) k) ?_
  refine own_go (st' := T2.setTop (mkF m 58 #[oR ax, oi 0, oi 2, oR b1, oi 2, .unset] [(.ref b1)])) (fun _ k => XS.aloadN X2.here hx rfl (hb hby d6_57) rfl rfl k) ?_
  obtain ⟨fs, hr, hrun, hended, hW, hsame⟩ := X2.leave (v := some (.ref b1)) (fun h => by rw [Bd.returns] at h; cases h)
  refine ⟨_, _, ?_, hP _ _ hrun hended ⟨_, _, rfl, ?_, ⟨_, rfl⟩, hW, hsame.mono (by decide) (by decide)⟩⟩
  · exact retOut X2 hx Bd.returns rfl (Or.inr (Or.inr (Or.inr (Or.inr ⟨rfl, rfl, rfl⟩)))) (hb hby d6_58) hr
  · show Qrcq_2 Z ax ka u0 u1 h0 n0 _ T2.heap _
    rw [e2]
    exact ⟨b1, k1, rfl, N2, (((Keep.refl h0 []).ext E1).trans K2 (allS (P := fun x => x ∈ [] ∨ h0.size ≤ x) (Or.inr (by omega)) all0)), g2_0, (by omega)⟩
theorem ef_rcd_2 (m : MethodId) (x0 : Addr) (x1 : Int32) : entryFrame m #[(.ref x0), (.int x1)] 2 = mkF m 0 #[.val (.ref x0), .val (.int x1)] [] := by first | (simp [entryFrame, mkF, argsToLocals, Value.category]; done) | rfl
def Qrcd_2 (Z : State) (ax : Addr) (ka : ClassId) (vs : List Value) (h0 : Heap) (n0 : Nat) (v : Option Value) (h : Heap) (L : List Loc) : Prop := (v = some (.int (0 : Int32))) ∧ (Fr n0 L) ∧ (h = h0)
set_option maxRecDepth 65536 in
set_option maxHeartbeats 40000000 in
theorem rcd_2 (l : Launch) (Z : State) (a0 : Array Value) (hw : ∀ d ∈ tables_1, d.before a0 Z = true) (ws : List Jvm.Cond) (ax : Addr) (ka : ClassId) (vs : List Value) (h0 : Heap) (n0 : Nat) (Z0 : n0 ≤ h0.size) (pr1 : Arv Z h0 ax ka .byte (2 : Int32) vs (.int (0 : Int32))) :
    MetFree l oM8 (head1 (Jvm.Cond.code oM8 jdk_52_method_15_code 2 (some .byte) :: ws) ({ frames := 0, cells := 0, slots := 0, locals := 0 } : Room)) (fun a U => a = #[(.ref ax), (.int (2 : Int32))] ∧ Z.Warmed39 U.vm ∧ U.heap = h0) (fun _ _ _ _ _ => True) (fun _ U o U' => ∃ v L, o = .returned v ∧ Qrcd_2 Z ax ka vs h0 n0 v U'.heap L ∧ FrameEnd U o U' L ({ frames := 0, cells := 0, slots := 0, locals := 0 } : Room).cells ({ frames := 0, cells := 0, slots := 0, locals := 0 } : Room).slots) := by
  refine MetFree.of_bodySF (plainFor_of_name pn_8) hisR ?_
  intro p e s m args below meth c s₁ Bd hml0 hP0 hK
  obtain ⟨rfl, hZ, hh⟩ := hP0
  have hx := Bd.exec
  have hby := Bd.bytes
  have hml : c.maxLocals = 2 := hml0
  have hown : s.vm.findClass oS5 = some m.cls := findClass_of_methodNamed Bd.named
  have hnm := (name_of_methodNamed Bd.named Bd.method).1
  have X0 : Stand p l e ({ frames := 0, cells := 0, slots := 0, locals := 0 } : Room) s m #[(.ref ax), (.int (2 : Int32))] below meth c s₁ [] 0 0 := Stand.of_body Bd
  have e0 : s₁.heap = h0 := by rw [← hh, Bd.state]; rfl
  have N0 := Fr.nil n0
  suffices own_H : ∀ (P : State → Outcome → Prop), (∀ U o, U.status = .running → Ended U below o → (∃ v L, o = .returned v ∧ Qrcd_2 Z ax ka vs h0 n0 v U.heap L ∧ FrameEnd s o U L ({ frames := 0, cells := 0, slots := 0, locals := 0 } : Room).cells ({ frames := 0, cells := 0, slots := 0, locals := 0 } : Room).slots) → P U o) → own_Go p.tables e below P (s₁.setTop (mkF m 0 #[oR ax, oi 2] [])) from own_go (fun _ k => castTop (ef_rcd_2 m ax (2 : Int32)) k) (own_H _ (fun U o h1 h2 h3 => ⟨h1, h2, h3⟩))
  intro P hP
  have lt_ax : @LT.lt Nat _ ax h0.size := pr1.lt
  refine own_go (st' := s₁.setTop (mkF m 1 #[oR ax, oi 2] [(.int (2 : Int32))])) (fun _ k => XS.iloadN X0.here hx rfl (hb hby d8_0) rfl k) ?_
  refine own_go (st' := s₁.setTop (mkF m 2 #[oR ax, oi 2] [(.ref ax), (.int (2 : Int32))])) (fun _ k => XS.aloadN X0.here hx rfl (hb hby d8_1) rfl rfl k) ?_
  obtain ⟨cl1, Ar1, -, S1, M1, -, -⟩ := id pr1
  refine own_go (st' := s₁.setTop (mkF m 3 #[oR ax, oi 2] [(.int (2 : Int32)), (.int (2 : Int32))])) (fun t k => X0.arraylength hx (by rw [e0]; exact Ar1.1) (State.isArrayOf_alike hZ.alike Ar1.2.1) (g := (mkF m 2 #[oR ax, oi 2] [(.ref ax), (.int (2 : Int32))])) rfl rfl (hb hby d8_2) t (by rw [len_of S1 M1]; exact k)) ?_
  refine own_go (st' := s₁.setTop (mkF m 4 #[oR ax, oi 2] [(.int (0 : Int32))])) (fun _ k => XS.isub X0.here hx rfl (hb hby d8_3) rfl (by rw [show ((2 : Int32) - (2 : Int32)) = (0 : Int32) by decide]; exact k)) ?_
  refine own_go (st' := s₁.setTop (mkF m 6 #[oR ax, oi 2] [(.int (31 : Int32)), (.int (0 : Int32))])) (fun _ k => XS.bipush X0.here hx rfl (hb hby d8_4) k) ?_
  refine own_go (st' := s₁.setTop (mkF m 7 #[oR ax, oi 2] [(.int (((0 : Int32).toUInt32 >>> ((31 : Int32) &&& 31).toUInt32).toInt32))])) (fun _ k => XS.iushr X0.here hx rfl (hb hby d8_6) rfl k) ?_
  refine own_go (st' := s₁.setTop (mkF m 8 #[oR ax, oi 2] [(.int (((0 : Int32).toUInt32 >>> ((31 : Int32) &&& 31).toUInt32).toInt32).toInt8.toInt32)])) (fun _ k => XS.i2b X0.here hx rfl (hb hby d8_7) rfl k) ?_
  obtain ⟨fs, hr, hrun, hended, hW, hsame⟩ := X0.leave (v := some (.int (nar .byte (((0 : Int32).toUInt32 >>> ((31 : Int32) &&& 31).toUInt32).toInt32).toInt8.toInt32))) (fun h => by rw [Bd.returns] at h; cases h)
  refine ⟨_, _, ?_, hP _ _ hrun hended ⟨_, _, rfl, ?_, ⟨_, rfl⟩, hW, hsame.mono (by decide) (by decide)⟩⟩
  · exact retN X0 hx (t := .byte) Bd.returns (by simp) (hb hby d8_8) hr
  · show Qrcd_2 Z ax ka vs h0 n0 _ s₁.heap _
    rw [e0]
    exact ⟨(congrArg (fun z => some (Value.int z)) (by decide +kernel)), N0, rfl⟩
theorem ef_rsi_2 (m : MethodId) (x0 : Addr) (x1 : Addr) (x2 : Int32) (x3 : Int32) : entryFrame m #[(.ref x0), (.ref x1), (.int x2), (.int x3), .null] 6 = mkF m 0 #[.val (.ref x0), .val (.ref x1), .val (.int x2), .val (.int x3), .val .null, .unset] [] := by first | (simp [entryFrame, mkF, argsToLocals, Value.category]; done) | rfl
def Qrsi_2 (Z : State) (a1 : Addr) (ax : Addr) (ka : ClassId) (zc : Int32) (u0 : Int32) (u1 : Int32) (h0 : Heap) (n0 : Nat) (v : Option Value) (h : Heap) (L : List Loc) : Prop := ∃ (r : Addr) (kr : ClassId), (v = none) ∧ (Fr n0 L) ∧ (Keep h0 h [a1]) ∧ (Exa Z h a1 "java/lang/String") ∧ (Fld Z h a1 "java/lang/String" "value" "[B" (.ref r)) ∧ (Fld Z h a1 "java/lang/String" "coder" "B" (.int (0 : Int32))) ∧ (Arv Z h r kr .byte (2 : Int32) [(.int (own_by u0)), (.int (own_by u1))] (.int (0 : Int32))) ∧ (h0.size ≤ r)
set_option maxRecDepth 65536 in
set_option maxHeartbeats 40000000 in
theorem rsi_2 (l : Launch) (Z : State) (a0 : Array Value) (hw : ∀ d ∈ tables_1, d.before a0 Z = true) (ws : List Jvm.Cond) (a1 : Addr) (ax : Addr) (ka : ClassId) (zc : Int32) (u0 : Int32) (u1 : Int32) (h0 : Heap) (n0 : Nat) (Z0 : n0 ≤ h0.size) (pr1 : Exa Z h0 a1 oS0) (pr2 : Fld Z h0 a1 oS0 "value" "[B" .null) (pr3 : Fld Z h0 a1 oS0 "coder" "B" (.int (0 : Int32))) (pr4 : Arv Z h0 ax ka .char (2 : Int32) [(.int u0), (.int u1)] (.int (0 : Int32))) (pr5 : Sta Z h0 oS0 oS3 "Z" (.int zc)) (hzc : ¬ zc = (0 : Int32)) (hl_u0 : own_lat u0) (hl_u1 : own_lat u1) (pr6 : n0 ≤ a1) (pr7 : @Ne Nat a1 ax) :
    MetFree l oM2 (head1 (Jvm.Cond.code oM2 jdk_42_method_149_code 6 none :: ws) ({ frames := 2, cells := 1, slots := 2, locals := 35 } : Room)) (fun a U => a = #[(.ref a1), (.ref ax), (.int (0 : Int32)), (.int (2 : Int32)), .null] ∧ Z.Warmed39 U.vm ∧ U.heap = h0) (fun _ _ _ _ _ => True) (fun _ U o U' => ∃ v L, o = .returned v ∧ Qrsi_2 Z a1 ax ka zc u0 u1 h0 n0 v U'.heap L ∧ FrameEnd U o U' L ({ frames := 2, cells := 1, slots := 2, locals := 35 } : Room).cells ({ frames := 2, cells := 1, slots := 2, locals := 35 } : Room).slots) := by
  refine MetFree.of_bodySF (plainFor_of_name pn_4) hisR ?_
  intro p e s m args below meth c s₁ Bd hml0 hP0 hK
  obtain ⟨rfl, hZ, hh⟩ := hP0
  have hx := Bd.exec
  have hby := Bd.bytes
  have hml : c.maxLocals = 6 := hml0
  have hown : s.vm.findClass oS0 = some m.cls := findClass_of_methodNamed Bd.named
  have hnm := (name_of_methodNamed Bd.named Bd.method).1
  have X0 : Stand p l e ({ frames := 2, cells := 1, slots := 2, locals := 35 } : Room) s m #[(.ref a1), (.ref ax), (.int (0 : Int32)), (.int (2 : Int32)), .null] below meth c s₁ [] 0 0 := Stand.of_body Bd
  have e0 : s₁.heap = h0 := by rw [← hh, Bd.state]; rfl
  have N0 := Fr.nil n0
  suffices own_H : ∀ (P : State → Outcome → Prop), (∀ U o, U.status = .running → Ended U below o → (∃ v L, o = .returned v ∧ Qrsi_2 Z a1 ax ka zc u0 u1 h0 n0 v U.heap L ∧ FrameEnd s o U L ({ frames := 2, cells := 1, slots := 2, locals := 35 } : Room).cells ({ frames := 2, cells := 1, slots := 2, locals := 35 } : Room).slots) → P U o) → own_Go p.tables e below P (s₁.setTop (mkF m 0 #[oR a1, oR ax, oi 0, oi 2, .val .null, .unset] [])) from own_go (fun _ k => castTop (ef_rsi_2 m a1 ax (0 : Int32) (2 : Int32)) k) (own_H _ (fun U o h1 h2 h3 => ⟨h1, h2, h3⟩))
  intro P hP
  have lt_a1 : @LT.lt Nat _ a1 h0.size := pr1.lt
  have lt_ax : @LT.lt Nat _ ax h0.size := pr4.lt
  refine own_go (st' := s₁.setTop (mkF m 1 #[oR a1, oR ax, oi 0, oi 2, .val .null, .unset] [(.ref a1)])) (fun _ k => XS.aloadN X0.here hx rfl (hb hby d4_0) rfl rfl k) ?_
  obtain ⟨T1, X1, e1, st1⟩ := initO X0 hx hZ hown (own_hw hw 18) (own_hw hw 19) (own_hw hw 20) e0 (g := (mkF m 1 #[oR a1, oR ax, oi 0, oi 2, .val .null, .unset] [(.ref a1)])) rfl (by rw [hml]; rfl) rfl (hb hby d4_1) (by decide) (W := 0) (by show 2 * 0 + _ ≤ _; exact Nat.le_of_eq rfl) (by decide)
  refine own_go (st' := T1.setTop (mkF m 4 #[oR a1, oR ax, oi 0, oi 2, .val .null, .unset] [])) (st1) ?_
  refine own_go (st' := T1.setTop (mkF m 5 #[oR a1, oR ax, oi 0, oi 2, .val .null, .unset] [(.int (2 : Int32))])) (fun _ k => XS.iloadN X1.here hx rfl (hb hby d4_4) rfl k) ?_
  have hc2 : ¬ ((2 : Int32) = (0 : Int32)) := by decide
  refine own_go (st' := T1.setTop (mkF m 27 #[oR a1, oR ax, oi 0, oi 2, .val .null, .unset] [])) (fun _ k => XS.ifYes X1.here hx rfl (pc0 := 5) (pc' := 27) rfl (hb hby d4_5) rfl ((if0 _ _).trans (feq hc2).2) (by decide) (by decide) k) ?_
  obtain ⟨T3, X3, e3, st3⟩ := getS2 X1 hx hZ hown (host := "") (Or.inl (own_hw hw 21)) Via.refl e1 pr5 (g := (mkF m 27 #[oR a1, oR ax, oi 0, oi 2, .val .null, .unset] [])) rfl (hb hby d4_27)
  refine own_go (st' := T3.setTop (mkF m 30 #[oR a1, oR ax, oi 0, oi 2, .val .null, .unset] [(.int zc)])) (st3) ?_
  have hc4 : ¬ (zc = (0 : Int32)) := hzc
  refine own_go (st' := T3.setTop (mkF m 33 #[oR a1, oR ax, oi 0, oi 2, .val .null, .unset] [])) (fun _ k => XS.ifNo X3.here hx rfl (hb hby d4_30) rfl ((if0 _ _).trans (feq hc4).1) k) ?_
  refine own_go (st' := T3.setTop (mkF m 34 #[oR a1, oR ax, oi 0, oi 2, .val .null, .unset] [(.ref ax)])) (fun _ k => XS.aloadN X3.here hx rfl (hb hby d4_33) rfl rfl k) ?_
  refine own_go (st' := T3.setTop (mkF m 35 #[oR a1, oR ax, oi 0, oi 2, .val .null, .unset] [(.int (0 : Int32)), (.ref ax)])) (fun _ k => XS.iloadN X3.here hx rfl (hb hby d4_34) rfl k) ?_
  refine own_go (st' := T3.setTop (mkF m 36 #[oR a1, oR ax, oi 0, oi 2, .val .null, .unset] [(.int (2 : Int32)), (.int (0 : Int32)), (.ref ax)])) (fun _ k => XS.iloadN X3.here hx rfl (hb hby d4_35) rfl k) ?_
  obtain ⟨_, _, ⟨T5, LC5, kC5, nC5⟩, -, X5, ⟨Lc5, hQ5, lq5, yq5, zq5⟩, st5⟩ := Jvm.LawKit.callS X3 hx (y := oM7) hown (mvT hZ (own_hw hw 22)) (mvT hZ (own_hw hw 23)) (mvT hZ (own_hw hw 24)) (mvT hZ (own_hw hw 25)) (by decide) (backOf (W := 0) (rcq_2 l Z a0 hw [] ax ka u0 u1 h0 n0 (by omega) pr4 hl_u0 hl_u1) hZ (own_hw hw 25) (own_hw hw 24) (by decide) (by decide)) (g := (mkF m 36 #[oR a1, oR ax, oi 0, oi 2, .val .null, .unset] [(.int (2 : Int32)), (.int (0 : Int32)), (.ref ax)])) rfl (by rw [hml]; rfl) (argsL := [(.ref ax), (.int (0 : Int32)), (.int (2 : Int32))]) (rest := []) (lenOf pd_1 rfl) rfl (by show 2 * 0 + _ ≤ _; exact Nat.le_of_eq rfl) (hb hby d4_36) (fun _ _ => ⟨rfl, e3, (by decide : 0 + 1 ≤ _), (by decide : 0 + 2 ≤ _)⟩)
  dsimp only [Pt.U, Pt.locs, Pt.cells, Pt.slots] at X5 lq5 yq5 zq5 st5 hQ5
  subst lq5 yq5 zq5
  obtain ⟨h5, e5⟩ : ∃ z, T5.heap = z := ⟨_, rfl⟩
  rw [e5] at hQ5
  obtain ⟨r_5, kr_5, rfl, Nq5, K5, g5_0, g5_1⟩ := hQ5
  have sz5 : h0.size ≤ h5.size := K5.1
  have N5 := Fr.app N0 Nq5
  have lt5_1 : @LT.lt Nat _ r_5 h5.size := g5_0.lt
  refine own_go (st' := T5.setTop (mkF m 39 #[oR a1, oR ax, oi 0, oi 2, .val .null, .unset] [(.ref r_5)])) (fun t k => st5 t k) ?_
  refine own_go (st' := T5.setTop (mkF m 41 #[oR a1, oR ax, oi 0, oi 2, .val .null, oR r_5] [])) (fun _ k => XS.astore X5.here hx rfl (hb hby d4_39) rfl rfl (l' := #[oR a1, oR ax, oi 0, oi 2, .val .null, oR r_5]) rfl k) ?_
  refine own_go (st' := T5.setTop (mkF m 42 #[oR a1, oR ax, oi 0, oi 2, .val .null, oR r_5] [(.ref a1)])) (fun _ k => XS.aloadN X5.here hx rfl (hb hby d4_41) rfl rfl k) ?_
  refine own_go (st' := T5.setTop (mkF m 44 #[oR a1, oR ax, oi 0, oi 2, .val .null, oR r_5] [(.ref r_5), (.ref a1)])) (fun _ k => XS.aload X5.here hx rfl (hb hby d4_42) rfl rfl k) ?_
  refine own_go (st' := T5.setTop (mkF m 45 #[oR a1, oR ax, oi 0, oi 2, .val .null, oR r_5] [(.int (2 : Int32)), (.ref r_5), (.ref a1)])) (fun _ k => XS.iloadN X5.here hx rfl (hb hby d4_44) rfl k) ?_
  obtain ⟨_, _, ⟨T6, LC6, kC6, nC6⟩, -, X6, ⟨Lc6, hQ6, lq6, yq6, zq6⟩, st6⟩ := Jvm.LawKit.callS X5 hx (y := oM8) hown (mvT hZ (own_hw hw 30)) (mvT hZ (own_hw hw 31)) (mvT hZ (own_hw hw 24)) (mvT hZ (own_hw hw 32)) (by decide) (backOf (W := 1) (rcd_2 l Z a0 hw [] r_5 kr_5 [(.int (own_by u0)), (.int (own_by u1))] h5 n0 (by omega) g5_0) hZ (own_hw hw 32) (own_hw hw 24) (by decide) (by decide)) (g := (mkF m 45 #[oR a1, oR ax, oi 0, oi 2, .val .null, oR r_5] [(.int (2 : Int32)), (.ref r_5), (.ref a1)])) rfl (by rw [hml]; rfl) (argsL := [(.ref r_5), (.int (2 : Int32))]) (rest := [(.ref a1)]) (lenOf pd_2 rfl) rfl (by show 2 * 0 + _ ≤ _; exact Nat.le_of_eq rfl) (hb hby d4_45) (fun _ _ => ⟨rfl, e5, (by decide : 1 + 0 ≤ _), (by decide : 2 + 0 ≤ _)⟩)
  dsimp only [Pt.U, Pt.locs, Pt.cells, Pt.slots] at X6 lq6 yq6 zq6 st6 hQ6
  subst lq6 yq6 zq6
  obtain ⟨rfl, Nq6, eq6⟩ := hQ6
  have N6 := Fr.app N5 Nq6
  refine own_go (st' := T6.setTop (mkF m 48 #[oR a1, oR ax, oi 0, oi 2, .val .null, oR r_5] [(.int (0 : Int32)), (.ref a1)])) (fun t k => st6 t k) ?_
  have c7 : Fld Z h5 a1 oS0 "coder" "B" (.int (0 : Int32)) := (pr3.keep K5 nin0)
  have c8 : Exa Z h5 a1 oS0 := (pr1.keep K5)
  obtain ⟨T9, h9, X9, e9, W9, st9⟩ := putFN X6 hx hZ hown (own_hw hw 33) Via.refl eq6 c7 c8 (Or.inr ⟨(own_hw hw 34), rfl, hnm⟩) (own_hw hw 8) (ty := .byte) (v' := (.int (0 : Int32))) (by decide) rfl rfl (g := (mkF m 48 #[oR a1, oR ax, oi 0, oi 2, .val .null, oR r_5] [(.int (0 : Int32)), (.ref a1)])) rfl rfl (hb hby d4_48)
  have sz9 : h9.size = h5.size := W9.size
  have N9 := Fr.snoc X9 N6 (by omega)
  have f9 : Fld Z h9 a1 oS0 "coder" "B" (.int (0 : Int32)) := c7.same W9
  refine own_go (st' := T9.setTop (mkF m 51 #[oR a1, oR ax, oi 0, oi 2, .val .null, oR r_5] [])) (st9) ?_
  refine own_go (st' := T9.setTop (mkF m 52 #[oR a1, oR ax, oi 0, oi 2, .val .null, oR r_5] [(.ref a1)])) (fun _ k => XS.aloadN X9.here hx rfl (hb hby d4_51) rfl rfl k) ?_
  refine own_go (st' := T9.setTop (mkF m 54 #[oR a1, oR ax, oi 0, oi 2, .val .null, oR r_5] [(.ref r_5), (.ref a1)])) (fun _ k => XS.aload X9.here hx rfl (hb hby d4_52) rfl rfl k) ?_
  have c10 : Fld Z h9 a1 oS0 "value" "[B" .null := ((pr2.keep K5 nin0).other W9 (Or.inr (slot_ne (Or.inr (own_hw hw 36)) (Or.inr (own_hw hw 34)) (by decide) (t := (.array .byte)) (t' := .byte) (by decide) (by decide))))
  have c11 : Exa Z h9 a1 oS0 := (c8.wr W9)
  obtain ⟨T12, h12, X12, e12, W12, st12⟩ := putF X9 hx hZ hown (host := "") (Or.inl (own_hw hw 35)) Via.refl e9 c10 c11 (Or.inr ⟨(own_hw hw 36), rfl, hnm⟩) (own_hw hw 8) (ty := (.array .byte)) (by decide) rfl rfl (g := (mkF m 54 #[oR a1, oR ax, oi 0, oi 2, .val .null, oR r_5] [(.ref r_5), (.ref a1)])) rfl rfl (hb hby d4_54)
  have sz12 : h12.size = h9.size := W12.size
  have N12 := Fr.snoc X12 N9 (by omega)
  have f12 : Fld Z h12 a1 oS0 "value" "[B" (.ref r_5) := c10.same W12
  refine own_go (st' := T12.setTop (mkF m 57 #[oR a1, oR ax, oi 0, oi 2, .val .null, oR r_5] [])) (st12) ?_
  obtain ⟨fs, hr, hrun, hended, hW, hsame⟩ := X12.leave (v := none) (fun _ => rfl)
  refine ⟨_, _, ?_, hP _ _ hrun hended ⟨_, _, rfl, ?_, ⟨_, rfl⟩, hW, hsame.mono (by decide) (by decide)⟩⟩
  · exact X12.returnOut hx Bd.returns (hb hby d4_57) hr
  · show Qrsi_2 Z a1 ax ka zc u0 u1 h0 n0 _ T12.heap _
    have c14 : Exa Z h12 a1 oS0 := (c11.wr W12)
    have c15 : Fld Z h12 a1 oS0 "coder" "B" (.int (0 : Int32)) := (f9.other W12 (Or.inr (slot_ne (Or.inr (own_hw hw 34)) (Or.inr (own_hw hw 36)) (by decide) (t := .byte) (t' := (.array .byte)) (by decide) (by decide))))
    have c16 : Arv Z h12 r_5 kr_5 .byte (2 : Int32) [(.int (own_by u0)), (.int (own_by u1))] (.int (0 : Int32)) := ((g5_0.other W9 (own_ne (by omega))).other W12 (own_ne (by omega)))
    rw [e12]
    exact ⟨r_5, kr_5, rfl, N12, ((((Keep.refl h0 [a1]).trans K5 all0).wr W9 (Or.inl (List.mem_of_getElem? (i := 0) rfl))).wr W12 (Or.inl (List.mem_of_getElem? (i := 0) rfl))), c14, f12, c15, c16, (by omega)⟩
theorem ef_rsc_2 (m : MethodId) (x0 : Addr) (x1 : Addr) : entryFrame m #[(.ref x0), (.ref x1)] 2 = mkF m 0 #[.val (.ref x0), .val (.ref x1)] [] := by first | (simp [entryFrame, mkF, argsToLocals, Value.category]; done) | rfl
def Qrsc_2 (Z : State) (a1 : Addr) (ax : Addr) (ka : ClassId) (zc : Int32) (u0 : Int32) (u1 : Int32) (h0 : Heap) (n0 : Nat) (v : Option Value) (h : Heap) (L : List Loc) : Prop := ∃ (r : Addr) (kr : ClassId), (v = none) ∧ (Fr n0 L) ∧ (Keep h0 h [a1]) ∧ (Exa Z h a1 "java/lang/String") ∧ (Fld Z h a1 "java/lang/String" "value" "[B" (.ref r)) ∧ (Fld Z h a1 "java/lang/String" "coder" "B" (.int (0 : Int32))) ∧ (Arv Z h r kr .byte (2 : Int32) [(.int (own_by u0)), (.int (own_by u1))] (.int (0 : Int32))) ∧ (h0.size ≤ r)
set_option maxRecDepth 65536 in
set_option maxHeartbeats 40000000 in
theorem rsc_2 (l : Launch) (Z : State) (a0 : Array Value) (hw : ∀ d ∈ tables_1, d.before a0 Z = true) (ws : List Jvm.Cond) (a1 : Addr) (ax : Addr) (ka : ClassId) (zc : Int32) (u0 : Int32) (u1 : Int32) (h0 : Heap) (n0 : Nat) (Z0 : n0 ≤ h0.size) (pr1 : Exa Z h0 a1 oS0) (pr2 : Fld Z h0 a1 oS0 "value" "[B" .null) (pr3 : Fld Z h0 a1 oS0 "coder" "B" (.int (0 : Int32))) (pr4 : Arv Z h0 ax ka .char (2 : Int32) [(.int u0), (.int u1)] (.int (0 : Int32))) (pr5 : Sta Z h0 oS0 oS3 "Z" (.int zc)) (hzc : ¬ zc = (0 : Int32)) (hl_u0 : own_lat u0) (hl_u1 : own_lat u1) (pr6 : n0 ≤ a1) (pr7 : @Ne Nat a1 ax) :
    MetFree l oM3 (head1 (Jvm.Cond.code oM3 jdk_42_method_3_code 2 none :: ws) ({ frames := 3, cells := 1, slots := 2, locals := 52 } : Room)) (fun a U => a = #[(.ref a1), (.ref ax)] ∧ Z.Warmed39 U.vm ∧ U.heap = h0) (fun _ _ _ _ _ => True) (fun _ U o U' => ∃ v L, o = .returned v ∧ Qrsc_2 Z a1 ax ka zc u0 u1 h0 n0 v U'.heap L ∧ FrameEnd U o U' L ({ frames := 3, cells := 1, slots := 2, locals := 52 } : Room).cells ({ frames := 3, cells := 1, slots := 2, locals := 52 } : Room).slots) := by
  refine MetFree.of_bodySF (plainFor_of_name pn_3) hisR ?_
  intro p e s m args below meth c s₁ Bd hml0 hP0 hK
  obtain ⟨rfl, hZ, hh⟩ := hP0
  have hx := Bd.exec
  have hby := Bd.bytes
  have hml : c.maxLocals = 2 := hml0
  have hown : s.vm.findClass oS0 = some m.cls := findClass_of_methodNamed Bd.named
  have hnm := (name_of_methodNamed Bd.named Bd.method).1
  have X0 : Stand p l e ({ frames := 3, cells := 1, slots := 2, locals := 52 } : Room) s m #[(.ref a1), (.ref ax)] below meth c s₁ [] 0 0 := Stand.of_body Bd
  have e0 : s₁.heap = h0 := by rw [← hh, Bd.state]; rfl
  have N0 := Fr.nil n0
  suffices own_H : ∀ (P : State → Outcome → Prop), (∀ U o, U.status = .running → Ended U below o → (∃ v L, o = .returned v ∧ Qrsc_2 Z a1 ax ka zc u0 u1 h0 n0 v U.heap L ∧ FrameEnd s o U L ({ frames := 3, cells := 1, slots := 2, locals := 52 } : Room).cells ({ frames := 3, cells := 1, slots := 2, locals := 52 } : Room).slots) → P U o) → own_Go p.tables e below P (s₁.setTop (mkF m 0 #[oR a1, oR ax] [])) from own_go (fun _ k => castTop (ef_rsc_2 m a1 ax) k) (own_H _ (fun U o h1 h2 h3 => ⟨h1, h2, h3⟩))
  intro P hP
  have lt_a1 : @LT.lt Nat _ a1 h0.size := pr1.lt
  have lt_ax : @LT.lt Nat _ ax h0.size := pr4.lt
  refine own_go (st' := s₁.setTop (mkF m 1 #[oR a1, oR ax] [(.ref a1)])) (fun _ k => XS.aloadN X0.here hx rfl (hb hby d3_0) rfl rfl k) ?_
  refine own_go (st' := s₁.setTop (mkF m 2 #[oR a1, oR ax] [(.ref ax), (.ref a1)])) (fun _ k => XS.aloadN X0.here hx rfl (hb hby d3_1) rfl rfl k) ?_
  refine own_go (st' := s₁.setTop (mkF m 3 #[oR a1, oR ax] [(.int (0 : Int32)), (.ref ax), (.ref a1)])) (fun _ k => XS.iconst X0.here hx rfl (hb hby d3_2) k) ?_
  refine own_go (st' := s₁.setTop (mkF m 4 #[oR a1, oR ax] [(.ref ax), (.int (0 : Int32)), (.ref ax), (.ref a1)])) (fun _ k => XS.aloadN X0.here hx rfl (hb hby d3_3) rfl rfl k) ?_
  obtain ⟨cl1, Ar1, -, S1, M1, -, -⟩ := id pr4
  refine own_go (st' := s₁.setTop (mkF m 5 #[oR a1, oR ax] [(.int (2 : Int32)), (.int (0 : Int32)), (.ref ax), (.ref a1)])) (fun t k => X0.arraylength hx (by rw [e0]; exact Ar1.1) (State.isArrayOf_alike hZ.alike Ar1.2.1) (g := (mkF m 4 #[oR a1, oR ax] [(.ref ax), (.int (0 : Int32)), (.ref ax), (.ref a1)])) rfl rfl (hb hby d3_4) t (by rw [len_of S1 M1]; exact k)) ?_
  refine own_go (st' := s₁.setTop (mkF m 6 #[oR a1, oR ax] [.null, (.int (2 : Int32)), (.int (0 : Int32)), (.ref ax), (.ref a1)])) (fun _ k => XS.aconstNull X0.here hx rfl (hb hby d3_5) k) ?_
  obtain ⟨_, _, ⟨T2, LC2, kC2, nC2⟩, -, X2, ⟨Lc2, hQ2, lq2, yq2, zq2⟩, st2⟩ := X0.specialBack hx (y := oM2) rfl hown (mvT hZ (own_hw hw 14)) (mvT hZ (own_hw hw 15)) (mvT hZ (own_hw hw 17)) (by decide) (backOf (W := 0) (rsi_2 l Z a0 hw [] a1 ax ka zc u0 u1 h0 n0 (by omega) pr1 pr2 pr3 pr4 pr5 (by assumption) hl_u0 hl_u1 (by omega) (own_ne (by omega))) hZ (own_hw hw 17) (own_hw hw 9) (by decide) (by decide)) (g := (mkF m 6 #[oR a1, oR ax] [.null, (.int (2 : Int32)), (.int (0 : Int32)), (.ref ax), (.ref a1)])) rfl (by rw [hml]; rfl) (Steps.refl _) (a := a1) (argsL := [(.ref ax), (.int (0 : Int32)), (.int (2 : Int32)), .null]) (rest := []) (lenOf pd_3 rfl) rfl (by show 2 * 0 + _ ≤ _; exact Nat.le_of_eq rfl) (hb hby d3_6) (fun _ _ => ⟨rfl, e0, (by decide : 0 + 1 ≤ _), (by decide : 0 + 2 ≤ _)⟩)
  dsimp only [Pt.U, Pt.locs, Pt.cells, Pt.slots] at X2 lq2 yq2 zq2 st2 hQ2
  subst lq2 yq2 zq2
  obtain ⟨h2, e2⟩ : ∃ z, T2.heap = z := ⟨_, rfl⟩
  rw [e2] at hQ2
  obtain ⟨r_2, kr_2, rfl, Nq2, K2, g2_0, g2_1, g2_2, g2_3, g2_4⟩ := hQ2
  have sz2 : h0.size ≤ h2.size := K2.1
  have N2 := Fr.app N0 Nq2
  have lt2_1 : @LT.lt Nat _ a1 h2.size := g2_0.lt
  have lt2_2 : @LT.lt Nat _ r_2 h2.size := g2_3.lt
  refine own_go (st' := T2.setTop (mkF m 9 #[oR a1, oR ax] [])) (fun _ k => st2.trans k) ?_
  obtain ⟨fs, hr, hrun, hended, hW, hsame⟩ := X2.leave (v := none) (fun _ => rfl)
  refine ⟨_, _, ?_, hP _ _ hrun hended ⟨_, _, rfl, ?_, ⟨_, rfl⟩, hW, hsame.mono (by decide) (by decide)⟩⟩
  · exact X2.returnOut hx Bd.returns (hb hby d3_9) hr
  · show Qrsc_2 Z a1 ax ka zc u0 u1 h0 n0 _ T2.heap _
    rw [e2]
    exact ⟨r_2, kr_2, rfl, N2, ((Keep.refl h0 [a1]).trans K2 (allS (P := fun x => x ∈ [a1] ∨ h0.size ≤ x) (Or.inl (List.mem_of_getElem? (i := 0) rfl)) all0)), g2_0, g2_1, g2_2, g2_3, (by omega)⟩
theorem ef_rcp_3 (m : MethodId) (x0 : Addr) (x1 : Int32) (x2 : Addr) (x3 : Int32) (x4 : Int32) : entryFrame m #[(.ref x0), (.int x1), (.ref x2), (.int x3), (.int x4)] 7 = mkF m 0 #[.val (.ref x0), .val (.int x1), .val (.ref x2), .val (.int x3), .val (.int x4), .unset, .unset] [] := by first | (simp [entryFrame, mkF, argsToLocals, Value.category]; done) | rfl
def Qrcp_3 (Z : State) (ax : Addr) (ka : ClassId) (ay : Addr) (kb : ClassId) (u0 : Int32) (u1 : Int32) (u2 : Int32) (h0 : Heap) (n0 : Nat) (v : Option Value) (h : Heap) (L : List Loc) : Prop := (v = some (.int (3 : Int32))) ∧ (Fr n0 L) ∧ (Keep h0 h [ay]) ∧ (Arv Z h ay kb .byte (3 : Int32) [(.int (own_by u0)), (.int (own_by u1)), (.int (own_by u2))] (.int (0 : Int32)))
set_option maxRecDepth 65536 in
set_option maxHeartbeats 40000000 in
theorem rcp_3 (l : Launch) (Z : State) (a0 : Array Value) (hw : ∀ d ∈ tables_1, d.before a0 Z = true) (ws : List Jvm.Cond) (ax : Addr) (ka : ClassId) (ay : Addr) (kb : ClassId) (u0 : Int32) (u1 : Int32) (u2 : Int32) (h0 : Heap) (n0 : Nat) (Z0 : n0 ≤ h0.size) (pr1 : Arv Z h0 ax ka .char (3 : Int32) [(.int u0), (.int u1), (.int u2)] (.int (0 : Int32))) (pr2 : Arv Z h0 ay kb .byte (3 : Int32) [(.int (0 : Int32)), (.int (0 : Int32)), (.int (0 : Int32))] (.int (0 : Int32))) (pr3 : n0 ≤ ay) (pr4 : @Ne Nat ax ay) (hl_u0 : own_lat u0) (hl_u1 : own_lat u1) (hl_u2 : own_lat u2) :
    MetFree l oM6 (head1 (Jvm.Cond.code oM6 jdk_52_method_21_code 7 (some .int) :: ws) ({ frames := 0, cells := 0, slots := 0, locals := 0 } : Room)) (fun a U => a = #[(.ref ax), (.int (0 : Int32)), (.ref ay), (.int (0 : Int32)), (.int (3 : Int32))] ∧ Z.Warmed39 U.vm ∧ U.heap = h0) (fun _ _ _ _ _ => True) (fun _ U o U' => ∃ v L, o = .returned v ∧ Qrcp_3 Z ax ka ay kb u0 u1 u2 h0 n0 v U'.heap L ∧ FrameEnd U o U' L ({ frames := 0, cells := 0, slots := 0, locals := 0 } : Room).cells ({ frames := 0, cells := 0, slots := 0, locals := 0 } : Room).slots) := by
  refine MetFree.of_bodySF (plainFor_of_name pn_7) hisR ?_
  intro p e s m args below meth c s₁ Bd hml0 hP0 hK
  obtain ⟨rfl, hZ, hh⟩ := hP0
  have hx := Bd.exec
  have hby := Bd.bytes
  have hml : c.maxLocals = 7 := hml0
  have hown : s.vm.findClass oS5 = some m.cls := findClass_of_methodNamed Bd.named
  have hnm := (name_of_methodNamed Bd.named Bd.method).1
  have X0 : Stand p l e ({ frames := 0, cells := 0, slots := 0, locals := 0 } : Room) s m #[(.ref ax), (.int (0 : Int32)), (.ref ay), (.int (0 : Int32)), (.int (3 : Int32))] below meth c s₁ [] 0 0 := Stand.of_body Bd
  have e0 : s₁.heap = h0 := by rw [← hh, Bd.state]; rfl
  have N0 := Fr.nil n0
  suffices own_H : ∀ (P : State → Outcome → Prop), (∀ U o, U.status = .running → Ended U below o → (∃ v L, o = .returned v ∧ Qrcp_3 Z ax ka ay kb u0 u1 u2 h0 n0 v U.heap L ∧ FrameEnd s o U L ({ frames := 0, cells := 0, slots := 0, locals := 0 } : Room).cells ({ frames := 0, cells := 0, slots := 0, locals := 0 } : Room).slots) → P U o) → own_Go p.tables e below P (s₁.setTop (mkF m 0 #[oR ax, oi 0, oR ay, oi 0, oi 3, .unset, .unset] [])) from own_go (fun _ k => castTop (ef_rcp_3 m ax (0 : Int32) ay (0 : Int32) (3 : Int32)) k) (own_H _ (fun U o h1 h2 h3 => ⟨h1, h2, h3⟩))
  intro P hP
  have lt_ax : @LT.lt Nat _ ax h0.size := pr1.lt
  have lt_ay : @LT.lt Nat _ ay h0.size := pr2.lt
  refine own_go (st' := s₁.setTop (mkF m 1 #[oR ax, oi 0, oR ay, oi 0, oi 3, .unset, .unset] [(.int (0 : Int32))])) (fun _ k => XS.iconst X0.here hx rfl (hb hby d7_0) k) ?_
  refine own_go (st' := s₁.setTop (mkF m 3 #[oR ax, oi 0, oR ay, oi 0, oi 3, oi 0, .unset] [])) (fun _ k => XS.istore X0.here hx rfl (hb hby d7_1) rfl (l' := #[oR ax, oi 0, oR ay, oi 0, oi 3, oi 0, .unset]) rfl k) ?_
  refine own_go (st' := s₁.setTop (mkF m 5 #[oR ax, oi 0, oR ay, oi 0, oi 3, oi 0, .unset] [(.int (0 : Int32))])) (fun _ k => XS.iload X0.here hx rfl (hb hby d7_3) rfl k) ?_
  refine own_go (st' := s₁.setTop (mkF m 7 #[oR ax, oi 0, oR ay, oi 0, oi 3, oi 0, .unset] [(.int (3 : Int32)), (.int (0 : Int32))])) (fun _ k => XS.iload X0.here hx rfl (hb hby d7_5) rfl k) ?_
  have hc1 : (0 : Int32) < (3 : Int32) := by decide
  refine own_go (st' := s₁.setTop (mkF m 10 #[oR ax, oi 0, oR ay, oi 0, oi 3, oi 0, .unset] [])) (fun _ k => XS.icmpNo X0.here hx rfl (hb hby d7_7) rfl (tlt hc1).2.1 k) ?_
  refine own_go (st' := s₁.setTop (mkF m 11 #[oR ax, oi 0, oR ay, oi 0, oi 3, oi 0, .unset] [(.ref ax)])) (fun _ k => XS.aloadN X0.here hx rfl (hb hby d7_10) rfl rfl k) ?_
  refine own_go (st' := s₁.setTop (mkF m 12 #[oR ax, oi 0, oR ay, oi 0, oi 3, oi 0, .unset] [(.int (0 : Int32)), (.ref ax)])) (fun _ k => XS.iloadN X0.here hx rfl (hb hby d7_11) rfl k) ?_
  obtain ⟨cl2, Ar2, -, S2, M2, H2, -⟩ := id pr1
  have hin2 : ¬ ((0 : Int32) < 0 ∨ cl2.slots.size ≤ ((0 : Int32)).toNatClampNeg) := (inb_of S2 ⟨by decide, by decide⟩)
  have hat2 : cl2.slots[((0 : Int32)).toNatClampNeg]? = some (.int u0) := (H2.at hin2 rfl)
  refine own_go (st' := s₁.setTop (mkF m 13 #[oR ax, oi 0, oR ay, oi 0, oi 3, oi 0, .unset] [(.int u0)])) (X0.caload hx (j := (0 : Int32)) (v := (.int u0)) (by rw [e0]; exact Ar2.1) (State.isArrayOf_alike hZ.alike Ar2.2.1) Ar2.2.2 hin2 hat2 (g := (mkF m 12 #[oR ax, oi 0, oR ay, oi 0, oi 3, oi 0, .unset] [(.int (0 : Int32)), (.ref ax)])) rfl rfl (hb hby d7_12)) ?_
  refine own_go (st' := s₁.setTop (mkF m 15 #[oR ax, oi 0, oR ay, oi 0, oi 3, oi 0, oi u0] [])) (fun _ k => XS.istore X0.here hx rfl (hb hby d7_13) rfl (l' := #[oR ax, oi 0, oR ay, oi 0, oi 3, oi 0, oi u0]) rfl k) ?_
  refine own_go (st' := s₁.setTop (mkF m 17 #[oR ax, oi 0, oR ay, oi 0, oi 3, oi 0, oi u0] [(.int u0)])) (fun _ k => XS.iload X0.here hx rfl (hb hby d7_15) rfl k) ?_
  refine own_go (st' := s₁.setTop (mkF m 20 #[oR ax, oi 0, oR ay, oi 0, oi 3, oi 0, oi u0] [(.int (255 : Int32)), (.int u0)])) (fun _ k => XS.sipush X0.here hx rfl (hb hby d7_17) k) ?_
  have hc3 : ¬ ((255 : Int32) < u0) := (own_lat_le hl_u0)
  refine own_go (st' := s₁.setTop (mkF m 26 #[oR ax, oi 0, oR ay, oi 0, oi 3, oi 0, oi u0] [])) (fun _ k => XS.icmpYes X0.here hx rfl (pc0 := 20) (pc' := 26) rfl (hb hby d7_20) rfl (flt hc3).2.2.2 (by decide) (by decide) k) ?_
  refine own_go (st' := s₁.setTop (mkF m 27 #[oR ax, oi 0, oR ay, oi 0, oi 3, oi 0, oi u0] [(.ref ay)])) (fun _ k => XS.aloadN X0.here hx rfl (hb hby d7_26) rfl rfl k) ?_
  refine own_go (st' := s₁.setTop (mkF m 28 #[oR ax, oi 0, oR ay, oi 0, oi 3, oi 0, oi u0] [(.int (0 : Int32)), (.ref ay)])) (fun _ k => XS.iloadN X0.here hx rfl (hb hby d7_27) rfl k) ?_
  refine own_go (st' := s₁.setTop (mkF m 30 #[oR ax, oi 0, oR ay, oi 0, oi 3, oi 0, oi u0] [(.int u0), (.int (0 : Int32)), (.ref ay)])) (fun _ k => XS.iload X0.here hx rfl (hb hby d7_28) rfl k) ?_
  refine own_go (st' := s₁.setTop (mkF m 31 #[oR ax, oi 0, oR ay, oi 0, oi 3, oi 0, oi u0] [(.int u0.toInt8.toInt32), (.int (0 : Int32)), (.ref ay)])) (fun _ k => XS.i2b X0.here hx rfl (hb hby d7_30) rfl k) ?_
  obtain ⟨cl4, Ar4, qc4, S4, M4, H4, G4⟩ := id pr2
  have hin4 : ¬ ((0 : Int32) < 0 ∨ cl4.slots.size ≤ ((0 : Int32)).toNatClampNeg) := (inb_of S4 ⟨by decide, by decide⟩)
  obtain ⟨T4, h4, X4, e4, W4, st4⟩ := stB X0 hx hZ e0 Ar4 (j := (0 : Int32)) hin4 (g := (mkF m 31 #[oR ax, oi 0, oR ay, oi 0, oi 3, oi 0, oi u0] [(.int u0.toInt8.toInt32), (.int (0 : Int32)), (.ref ay)])) rfl rfl (hb hby d7_31)
  have sz4 : h4.size = h0.size := W4.size
  have N4 := Fr.snoc X4 N0 (by omega)
  have v4 : Arv Z h4 ay kb .byte (3 : Int32) [(.int (nar .byte u0.toInt8.toInt32)), (.int (0 : Int32)), (.int (0 : Int32))] (.int (0 : Int32)) := Arv.set Ar4 qc4 S4 M4 H4 G4 (fits_nar_byte _) W4 0 rfl (Nat.le_of_ble_eq_true rfl)
  refine own_go (st' := T4.setTop (mkF m 32 #[oR ax, oi 0, oR ay, oi 0, oi 3, oi 0, oi u0] [])) (st4) ?_
  refine own_go (st' := T4.setTop (mkF m 35 #[oR ax, oi 1, oR ay, oi 0, oi 3, oi 0, oi u0] [])) (fun _ k => XS.iinc X4.here hx rfl (hb hby d7_32) rfl (l' := #[oR ax, oi 1, oR ay, oi 0, oi 3, oi 0, oi u0]) (by rw [show ((0 : Int32) + Int32.ofInt 1) = (1 : Int32) by decide]; rfl) k) ?_
  refine own_go (st' := T4.setTop (mkF m 38 #[oR ax, oi 1, oR ay, oi 1, oi 3, oi 0, oi u0] [])) (fun _ k => XS.iinc X4.here hx rfl (hb hby d7_35) rfl (l' := #[oR ax, oi 1, oR ay, oi 1, oi 3, oi 0, oi u0]) (by rw [show ((0 : Int32) + Int32.ofInt 1) = (1 : Int32) by decide]; rfl) k) ?_
  refine own_go (st' := T4.setTop (mkF m 41 #[oR ax, oi 1, oR ay, oi 1, oi 3, oi 1, oi u0] [])) (fun _ k => XS.iinc X4.here hx rfl (hb hby d7_38) rfl (l' := #[oR ax, oi 1, oR ay, oi 1, oi 3, oi 1, oi u0]) (by rw [show ((0 : Int32) + Int32.ofInt 1) = (1 : Int32) by decide]; rfl) k) ?_
  refine own_go (st' := T4.setTop (mkF m 3 #[oR ax, oi 1, oR ay, oi 1, oi 3, oi 1, oi u0] [])) (fun _ k => XS.goto X4.here hx rfl (pc0 := 41) (pc' := 3) rfl (hb hby d7_41) (by decide) (by decide) k) ?_
  refine own_go (st' := T4.setTop (mkF m 5 #[oR ax, oi 1, oR ay, oi 1, oi 3, oi 1, oi u0] [(.int (1 : Int32))])) (fun _ k => XS.iload X4.here hx rfl (hb hby d7_3) rfl k) ?_
  refine own_go (st' := T4.setTop (mkF m 7 #[oR ax, oi 1, oR ay, oi 1, oi 3, oi 1, oi u0] [(.int (3 : Int32)), (.int (1 : Int32))])) (fun _ k => XS.iload X4.here hx rfl (hb hby d7_5) rfl k) ?_
  have hc5 : (1 : Int32) < (3 : Int32) := by decide
  refine own_go (st' := T4.setTop (mkF m 10 #[oR ax, oi 1, oR ay, oi 1, oi 3, oi 1, oi u0] [])) (fun _ k => XS.icmpNo X4.here hx rfl (hb hby d7_7) rfl (tlt hc5).2.1 k) ?_
  refine own_go (st' := T4.setTop (mkF m 11 #[oR ax, oi 1, oR ay, oi 1, oi 3, oi 1, oi u0] [(.ref ax)])) (fun _ k => XS.aloadN X4.here hx rfl (hb hby d7_10) rfl rfl k) ?_
  refine own_go (st' := T4.setTop (mkF m 12 #[oR ax, oi 1, oR ay, oi 1, oi 3, oi 1, oi u0] [(.int (1 : Int32)), (.ref ax)])) (fun _ k => XS.iloadN X4.here hx rfl (hb hby d7_11) rfl k) ?_
  have c6 : Arv Z h4 ax ka .char (3 : Int32) [(.int u0), (.int u1), (.int u2)] (.int (0 : Int32)) := (pr1.other W4 (own_ne (by omega)))
  obtain ⟨cl7, Ar7, -, S7, M7, H7, -⟩ := id c6
  have hin7 : ¬ ((1 : Int32) < 0 ∨ cl7.slots.size ≤ ((1 : Int32)).toNatClampNeg) := (inb_of S7 ⟨by decide, by decide⟩)
  have hat7 : cl7.slots[((1 : Int32)).toNatClampNeg]? = some (.int u1) := (H7.at hin7 rfl)
  refine own_go (st' := T4.setTop (mkF m 13 #[oR ax, oi 1, oR ay, oi 1, oi 3, oi 1, oi u0] [(.int u1)])) (X4.caload hx (j := (1 : Int32)) (v := (.int u1)) (by rw [e4]; exact Ar7.1) (State.isArrayOf_alike hZ.alike Ar7.2.1) Ar7.2.2 hin7 hat7 (g := (mkF m 12 #[oR ax, oi 1, oR ay, oi 1, oi 3, oi 1, oi u0] [(.int (1 : Int32)), (.ref ax)])) rfl rfl (hb hby d7_12)) ?_
  refine own_go (st' := T4.setTop (mkF m 15 #[oR ax, oi 1, oR ay, oi 1, oi 3, oi 1, oi u1] [])) (fun _ k => XS.istore X4.here hx rfl (hb hby d7_13) rfl (l' := #[oR ax, oi 1, oR ay, oi 1, oi 3, oi 1, oi u1]) rfl k) ?_
  refine own_go (st' := T4.setTop (mkF m 17 #[oR ax, oi 1, oR ay, oi 1, oi 3, oi 1, oi u1] [(.int u1)])) (fun _ k => XS.iload X4.here hx rfl (hb hby d7_15) rfl k) ?_
  refine own_go (st' := T4.setTop (mkF m 20 #[oR ax, oi 1, oR ay, oi 1, oi 3, oi 1, oi u1] [(.int (255 : Int32)), (.int u1)])) (fun _ k => XS.sipush X4.here hx rfl (hb hby d7_17) k) ?_
  have hc8 : ¬ ((255 : Int32) < u1) := (own_lat_le hl_u1)
  refine own_go (st' := T4.setTop (mkF m 26 #[oR ax, oi 1, oR ay, oi 1, oi 3, oi 1, oi u1] [])) (fun _ k => XS.icmpYes X4.here hx rfl (pc0 := 20) (pc' := 26) rfl (hb hby d7_20) rfl (flt hc8).2.2.2 (by decide) (by decide) k) ?_
  refine own_go (st' := T4.setTop (mkF m 27 #[oR ax, oi 1, oR ay, oi 1, oi 3, oi 1, oi u1] [(.ref ay)])) (fun _ k => XS.aloadN X4.here hx rfl (hb hby d7_26) rfl rfl k) ?_
  refine own_go (st' := T4.setTop (mkF m 28 #[oR ax, oi 1, oR ay, oi 1, oi 3, oi 1, oi u1] [(.int (1 : Int32)), (.ref ay)])) (fun _ k => XS.iloadN X4.here hx rfl (hb hby d7_27) rfl k) ?_
  refine own_go (st' := T4.setTop (mkF m 30 #[oR ax, oi 1, oR ay, oi 1, oi 3, oi 1, oi u1] [(.int u1), (.int (1 : Int32)), (.ref ay)])) (fun _ k => XS.iload X4.here hx rfl (hb hby d7_28) rfl k) ?_
  refine own_go (st' := T4.setTop (mkF m 31 #[oR ax, oi 1, oR ay, oi 1, oi 3, oi 1, oi u1] [(.int u1.toInt8.toInt32), (.int (1 : Int32)), (.ref ay)])) (fun _ k => XS.i2b X4.here hx rfl (hb hby d7_30) rfl k) ?_
  obtain ⟨cl9, Ar9, qc9, S9, M9, H9, G9⟩ := id v4
  have hin9 : ¬ ((1 : Int32) < 0 ∨ cl9.slots.size ≤ ((1 : Int32)).toNatClampNeg) := (inb_of S9 ⟨by decide, by decide⟩)
  obtain ⟨T9, h9, X9, e9, W9, st9⟩ := stB X4 hx hZ e4 Ar9 (j := (1 : Int32)) hin9 (g := (mkF m 31 #[oR ax, oi 1, oR ay, oi 1, oi 3, oi 1, oi u1] [(.int u1.toInt8.toInt32), (.int (1 : Int32)), (.ref ay)])) rfl rfl (hb hby d7_31)
  have sz9 : h9.size = h4.size := W9.size
  have N9 := Fr.snoc X9 N4 (by omega)
  have v9 : Arv Z h9 ay kb .byte (3 : Int32) [(.int (nar .byte u0.toInt8.toInt32)), (.int (nar .byte u1.toInt8.toInt32)), (.int (0 : Int32))] (.int (0 : Int32)) := Arv.set Ar9 qc9 S9 M9 H9 G9 (fits_nar_byte _) W9 1 rfl (Nat.le_of_ble_eq_true rfl)
  refine own_go (st' := T9.setTop (mkF m 32 #[oR ax, oi 1, oR ay, oi 1, oi 3, oi 1, oi u1] [])) (st9) ?_
  refine own_go (st' := T9.setTop (mkF m 35 #[oR ax, oi 2, oR ay, oi 1, oi 3, oi 1, oi u1] [])) (fun _ k => XS.iinc X9.here hx rfl (hb hby d7_32) rfl (l' := #[oR ax, oi 2, oR ay, oi 1, oi 3, oi 1, oi u1]) (by rw [show ((1 : Int32) + Int32.ofInt 1) = (2 : Int32) by decide]; rfl) k) ?_
  refine own_go (st' := T9.setTop (mkF m 38 #[oR ax, oi 2, oR ay, oi 2, oi 3, oi 1, oi u1] [])) (fun _ k => XS.iinc X9.here hx rfl (hb hby d7_35) rfl (l' := #[oR ax, oi 2, oR ay, oi 2, oi 3, oi 1, oi u1]) (by rw [show ((1 : Int32) + Int32.ofInt 1) = (2 : Int32) by decide]; rfl) k) ?_
  refine own_go (st' := T9.setTop (mkF m 41 #[oR ax, oi 2, oR ay, oi 2, oi 3, oi 2, oi u1] [])) (fun _ k => XS.iinc X9.here hx rfl (hb hby d7_38) rfl (l' := #[oR ax, oi 2, oR ay, oi 2, oi 3, oi 2, oi u1]) (by rw [show ((1 : Int32) + Int32.ofInt 1) = (2 : Int32) by decide]; rfl) k) ?_
  refine own_go (st' := T9.setTop (mkF m 3 #[oR ax, oi 2, oR ay, oi 2, oi 3, oi 2, oi u1] [])) (fun _ k => XS.goto X9.here hx rfl (pc0 := 41) (pc' := 3) rfl (hb hby d7_41) (by decide) (by decide) k) ?_
  refine own_go (st' := T9.setTop (mkF m 5 #[oR ax, oi 2, oR ay, oi 2, oi 3, oi 2, oi u1] [(.int (2 : Int32))])) (fun _ k => XS.iload X9.here hx rfl (hb hby d7_3) rfl k) ?_
  refine own_go (st' := T9.setTop (mkF m 7 #[oR ax, oi 2, oR ay, oi 2, oi 3, oi 2, oi u1] [(.int (3 : Int32)), (.int (2 : Int32))])) (fun _ k => XS.iload X9.here hx rfl (hb hby d7_5) rfl k) ?_
  have hc10 : (2 : Int32) < (3 : Int32) := by decide
  refine own_go (st' := T9.setTop (mkF m 10 #[oR ax, oi 2, oR ay, oi 2, oi 3, oi 2, oi u1] [])) (fun _ k => XS.icmpNo X9.here hx rfl (hb hby d7_7) rfl (tlt hc10).2.1 k) ?_
  refine own_go (st' := T9.setTop (mkF m 11 #[oR ax, oi 2, oR ay, oi 2, oi 3, oi 2, oi u1] [(.ref ax)])) (fun _ k => XS.aloadN X9.here hx rfl (hb hby d7_10) rfl rfl k) ?_
  refine own_go (st' := T9.setTop (mkF m 12 #[oR ax, oi 2, oR ay, oi 2, oi 3, oi 2, oi u1] [(.int (2 : Int32)), (.ref ax)])) (fun _ k => XS.iloadN X9.here hx rfl (hb hby d7_11) rfl k) ?_
  have c11 : Arv Z h9 ax ka .char (3 : Int32) [(.int u0), (.int u1), (.int u2)] (.int (0 : Int32)) := (c6.other W9 (own_ne (by omega)))
  obtain ⟨cl12, Ar12, -, S12, M12, H12, -⟩ := id c11
  have hin12 : ¬ ((2 : Int32) < 0 ∨ cl12.slots.size ≤ ((2 : Int32)).toNatClampNeg) := (inb_of S12 ⟨by decide, by decide⟩)
  have hat12 : cl12.slots[((2 : Int32)).toNatClampNeg]? = some (.int u2) := (H12.at hin12 rfl)
  refine own_go (st' := T9.setTop (mkF m 13 #[oR ax, oi 2, oR ay, oi 2, oi 3, oi 2, oi u1] [(.int u2)])) (X9.caload hx (j := (2 : Int32)) (v := (.int u2)) (by rw [e9]; exact Ar12.1) (State.isArrayOf_alike hZ.alike Ar12.2.1) Ar12.2.2 hin12 hat12 (g := (mkF m 12 #[oR ax, oi 2, oR ay, oi 2, oi 3, oi 2, oi u1] [(.int (2 : Int32)), (.ref ax)])) rfl rfl (hb hby d7_12)) ?_
  refine own_go (st' := T9.setTop (mkF m 15 #[oR ax, oi 2, oR ay, oi 2, oi 3, oi 2, oi u2] [])) (fun _ k => XS.istore X9.here hx rfl (hb hby d7_13) rfl (l' := #[oR ax, oi 2, oR ay, oi 2, oi 3, oi 2, oi u2]) rfl k) ?_
  refine own_go (st' := T9.setTop (mkF m 17 #[oR ax, oi 2, oR ay, oi 2, oi 3, oi 2, oi u2] [(.int u2)])) (fun _ k => XS.iload X9.here hx rfl (hb hby d7_15) rfl k) ?_
  refine own_go (st' := T9.setTop (mkF m 20 #[oR ax, oi 2, oR ay, oi 2, oi 3, oi 2, oi u2] [(.int (255 : Int32)), (.int u2)])) (fun _ k => XS.sipush X9.here hx rfl (hb hby d7_17) k) ?_
  have hc13 : ¬ ((255 : Int32) < u2) := (own_lat_le hl_u2)
  refine own_go (st' := T9.setTop (mkF m 26 #[oR ax, oi 2, oR ay, oi 2, oi 3, oi 2, oi u2] [])) (fun _ k => XS.icmpYes X9.here hx rfl (pc0 := 20) (pc' := 26) rfl (hb hby d7_20) rfl (flt hc13).2.2.2 (by decide) (by decide) k) ?_
  refine own_go (st' := T9.setTop (mkF m 27 #[oR ax, oi 2, oR ay, oi 2, oi 3, oi 2, oi u2] [(.ref ay)])) (fun _ k => XS.aloadN X9.here hx rfl (hb hby d7_26) rfl rfl k) ?_
  refine own_go (st' := T9.setTop (mkF m 28 #[oR ax, oi 2, oR ay, oi 2, oi 3, oi 2, oi u2] [(.int (2 : Int32)), (.ref ay)])) (fun _ k => XS.iloadN X9.here hx rfl (hb hby d7_27) rfl k) ?_
  refine own_go (st' := T9.setTop (mkF m 30 #[oR ax, oi 2, oR ay, oi 2, oi 3, oi 2, oi u2] [(.int u2), (.int (2 : Int32)), (.ref ay)])) (fun _ k => XS.iload X9.here hx rfl (hb hby d7_28) rfl k) ?_
  refine own_go (st' := T9.setTop (mkF m 31 #[oR ax, oi 2, oR ay, oi 2, oi 3, oi 2, oi u2] [(.int u2.toInt8.toInt32), (.int (2 : Int32)), (.ref ay)])) (fun _ k => XS.i2b X9.here hx rfl (hb hby d7_30) rfl k) ?_
  obtain ⟨cl14, Ar14, qc14, S14, M14, H14, G14⟩ := id v9
  have hin14 : ¬ ((2 : Int32) < 0 ∨ cl14.slots.size ≤ ((2 : Int32)).toNatClampNeg) := (inb_of S14 ⟨by decide, by decide⟩)
  obtain ⟨T14, h14, X14, e14, W14, st14⟩ := stB X9 hx hZ e9 Ar14 (j := (2 : Int32)) hin14 (g := (mkF m 31 #[oR ax, oi 2, oR ay, oi 2, oi 3, oi 2, oi u2] [(.int u2.toInt8.toInt32), (.int (2 : Int32)), (.ref ay)])) rfl rfl (hb hby d7_31)
  have sz14 : h14.size = h9.size := W14.size
  have N14 := Fr.snoc X14 N9 (by omega)
  have v14 : Arv Z h14 ay kb .byte (3 : Int32) [(.int (nar .byte u0.toInt8.toInt32)), (.int (nar .byte u1.toInt8.toInt32)), (.int (nar .byte u2.toInt8.toInt32))] (.int (0 : Int32)) := Arv.set Ar14 qc14 S14 M14 H14 G14 (fits_nar_byte _) W14 2 rfl (Nat.le_of_ble_eq_true rfl)
  refine own_go (st' := T14.setTop (mkF m 32 #[oR ax, oi 2, oR ay, oi 2, oi 3, oi 2, oi u2] [])) (st14) ?_
  refine own_go (st' := T14.setTop (mkF m 35 #[oR ax, oi 3, oR ay, oi 2, oi 3, oi 2, oi u2] [])) (fun _ k => XS.iinc X14.here hx rfl (hb hby d7_32) rfl (l' := #[oR ax, oi 3, oR ay, oi 2, oi 3, oi 2, oi u2]) (by rw [show ((2 : Int32) + Int32.ofInt 1) = (3 : Int32) by decide]; rfl) k) ?_
  refine own_go (st' := T14.setTop (mkF m 38 #[oR ax, oi 3, oR ay, oi 3, oi 3, oi 2, oi u2] [])) (fun _ k => XS.iinc X14.here hx rfl (hb hby d7_35) rfl (l' := #[oR ax, oi 3, oR ay, oi 3, oi 3, oi 2, oi u2]) (by rw [show ((2 : Int32) + Int32.ofInt 1) = (3 : Int32) by decide]; rfl) k) ?_
  refine own_go (st' := T14.setTop (mkF m 41 #[oR ax, oi 3, oR ay, oi 3, oi 3, oi 3, oi u2] [])) (fun _ k => XS.iinc X14.here hx rfl (hb hby d7_38) rfl (l' := #[oR ax, oi 3, oR ay, oi 3, oi 3, oi 3, oi u2]) (by rw [show ((2 : Int32) + Int32.ofInt 1) = (3 : Int32) by decide]; rfl) k) ?_
  refine own_go (st' := T14.setTop (mkF m 3 #[oR ax, oi 3, oR ay, oi 3, oi 3, oi 3, oi u2] [])) (fun _ k => XS.goto X14.here hx rfl (pc0 := 41) (pc' := 3) rfl (hb hby d7_41) (by decide) (by decide) k) ?_
  refine own_go (st' := T14.setTop (mkF m 5 #[oR ax, oi 3, oR ay, oi 3, oi 3, oi 3, oi u2] [(.int (3 : Int32))])) (fun _ k => XS.iload X14.here hx rfl (hb hby d7_3) rfl k) ?_
  refine own_go (st' := T14.setTop (mkF m 7 #[oR ax, oi 3, oR ay, oi 3, oi 3, oi 3, oi u2] [(.int (3 : Int32)), (.int (3 : Int32))])) (fun _ k => XS.iload X14.here hx rfl (hb hby d7_5) rfl k) ?_
  have hc15 : ¬ ((3 : Int32) < (3 : Int32)) := by decide
  refine own_go (st' := T14.setTop (mkF m 44 #[oR ax, oi 3, oR ay, oi 3, oi 3, oi 3, oi u2] [])) (fun _ k => XS.icmpYes X14.here hx rfl (pc0 := 7) (pc' := 44) rfl (hb hby d7_7) rfl (flt hc15).2.1 (by decide) (by decide) k) ?_
  refine own_go (st' := T14.setTop (mkF m 46 #[oR ax, oi 3, oR ay, oi 3, oi 3, oi 3, oi u2] [(.int (3 : Int32))])) (fun _ k => XS.iload X14.here hx rfl (hb hby d7_44) rfl k) ?_
  obtain ⟨fs, hr, hrun, hended, hW, hsame⟩ := X14.leave (v := some (.int (3 : Int32))) (fun h => by rw [Bd.returns] at h; cases h)
  refine ⟨_, _, ?_, hP _ _ hrun hended ⟨_, _, rfl, ?_, ⟨_, rfl⟩, hW, hsame.mono (by decide) (by decide)⟩⟩
  · exact retOut X14 hx Bd.returns rfl (Or.inl ⟨rfl, Or.inl rfl, _, rfl⟩) (hb hby d7_46) hr
  · show Qrcp_3 Z ax ka ay kb u0 u1 u2 h0 n0 _ T14.heap _
    rw [e14]
    exact ⟨rfl, N14, ((((Keep.refl h0 [ay]).wr W4 (Or.inl (List.mem_of_getElem? (i := 0) rfl))).wr W9 (Or.inl (List.mem_of_getElem? (i := 0) rfl))).wr W14 (Or.inl (List.mem_of_getElem? (i := 0) rfl))), v14⟩
theorem ef_rcq_3 (m : MethodId) (x0 : Addr) (x1 : Int32) (x2 : Int32) : entryFrame m #[(.ref x0), (.int x1), (.int x2)] 6 = mkF m 0 #[.val (.ref x0), .val (.int x1), .val (.int x2), .unset, .unset, .unset] [] := by first | (simp [entryFrame, mkF, argsToLocals, Value.category]; done) | rfl
def Qrcq_3 (Z : State) (ax : Addr) (ka : ClassId) (u0 : Int32) (u1 : Int32) (u2 : Int32) (h0 : Heap) (n0 : Nat) (v : Option Value) (h : Heap) (L : List Loc) : Prop := ∃ (r : Addr) (kr : ClassId), (v = some (.ref r)) ∧ (Fr n0 L) ∧ (Keep h0 h []) ∧ (Arv Z h r kr .byte (3 : Int32) [(.int (own_by u0)), (.int (own_by u1)), (.int (own_by u2))] (.int (0 : Int32))) ∧ (h0.size ≤ r)
set_option maxRecDepth 65536 in
set_option maxHeartbeats 40000000 in
theorem rcq_3 (l : Launch) (Z : State) (a0 : Array Value) (hw : ∀ d ∈ tables_1, d.before a0 Z = true) (ws : List Jvm.Cond) (ax : Addr) (ka : ClassId) (u0 : Int32) (u1 : Int32) (u2 : Int32) (h0 : Heap) (n0 : Nat) (Z0 : n0 ≤ h0.size) (pr1 : Arv Z h0 ax ka .char (3 : Int32) [(.int u0), (.int u1), (.int u2)] (.int (0 : Int32))) (hl_u0 : own_lat u0) (hl_u1 : own_lat u1) (hl_u2 : own_lat u2) :
    MetFree l oM7 (head1 (Jvm.Cond.code oM7 jdk_52_method_16_code 6 (some (.array .byte)) :: ws) ({ frames := 1, cells := 1, slots := 3, locals := 18 } : Room)) (fun a U => a = #[(.ref ax), (.int (0 : Int32)), (.int (3 : Int32))] ∧ Z.Warmed39 U.vm ∧ U.heap = h0) (fun _ _ _ _ _ => True) (fun _ U o U' => ∃ v L, o = .returned v ∧ Qrcq_3 Z ax ka u0 u1 u2 h0 n0 v U'.heap L ∧ FrameEnd U o U' L ({ frames := 1, cells := 1, slots := 3, locals := 18 } : Room).cells ({ frames := 1, cells := 1, slots := 3, locals := 18 } : Room).slots) := by
  refine MetFree.of_bodySF (plainFor_of_name pn_6) hisR ?_
  intro p e s m args below meth c s₁ Bd hml0 hP0 hK
  obtain ⟨rfl, hZ, hh⟩ := hP0
  have hx := Bd.exec
  have hby := Bd.bytes
  have hml : c.maxLocals = 6 := hml0
  have hown : s.vm.findClass oS5 = some m.cls := findClass_of_methodNamed Bd.named
  have hnm := (name_of_methodNamed Bd.named Bd.method).1
  have X0 : Stand p l e ({ frames := 1, cells := 1, slots := 3, locals := 18 } : Room) s m #[(.ref ax), (.int (0 : Int32)), (.int (3 : Int32))] below meth c s₁ [] 0 0 := Stand.of_body Bd
  have e0 : s₁.heap = h0 := by rw [← hh, Bd.state]; rfl
  have N0 := Fr.nil n0
  suffices own_H : ∀ (P : State → Outcome → Prop), (∀ U o, U.status = .running → Ended U below o → (∃ v L, o = .returned v ∧ Qrcq_3 Z ax ka u0 u1 u2 h0 n0 v U.heap L ∧ FrameEnd s o U L ({ frames := 1, cells := 1, slots := 3, locals := 18 } : Room).cells ({ frames := 1, cells := 1, slots := 3, locals := 18 } : Room).slots) → P U o) → own_Go p.tables e below P (s₁.setTop (mkF m 0 #[oR ax, oi 0, oi 3, .unset, .unset, .unset] [])) from own_go (fun _ k => castTop (ef_rcq_3 m ax (0 : Int32) (3 : Int32)) k) (own_H _ (fun U o h1 h2 h3 => ⟨h1, h2, h3⟩))
  intro P hP
  have lt_ax : @LT.lt Nat _ ax h0.size := pr1.lt
  refine own_go (st' := s₁.setTop (mkF m 1 #[oR ax, oi 0, oi 3, .unset, .unset, .unset] [(.int (3 : Int32))])) (fun _ k => XS.iloadN X0.here hx rfl (hb hby d6_0) rfl k) ?_
  obtain ⟨T1, h1, k1, X1, e1, E1, A1, st1⟩ := newP X0 hx hZ (own_hw hw 26) e0 (g := (mkF m 1 #[oR ax, oi 0, oi 3, .unset, .unset, .unset] [(.int (3 : Int32))])) rfl (hb hby d6_1) rfl (by decide) (cap := 3) (by decide) (by decide) (by decide) (by decide)
  obtain ⟨b1, g1⟩ : ∃ z, z = h0.size := ⟨_, rfl⟩
  rw [← g1] at A1 st1
  have sz1 : h0.size ≤ h1.size := E1.1
  have lt1 : @LT.lt Nat _ b1 h1.size := A1.lt
  have v1 : Arv Z h1 b1 k1 .byte (3 : Int32) [(.int (0 : Int32)), (.int (0 : Int32)), (.int (0 : Int32))] (.int (0 : Int32)) := (Arv.new A1 (by decide)).pad (pad_rep [] (.int (0 : Int32)) 3)
  refine own_go (st' := T1.setTop (mkF m 3 #[oR ax, oi 0, oi 3, .unset, .unset, .unset] [(.ref b1)])) (st1) ?_
  refine own_go (st' := T1.setTop (mkF m 4 #[oR ax, oi 0, oi 3, oR b1, .unset, .unset] [])) (fun _ k => XS.astoreN X1.here hx rfl (hb hby d6_3) rfl rfl (l' := #[oR ax, oi 0, oi 3, oR b1, .unset, .unset]) rfl k) ?_
  refine own_go (st' := T1.setTop (mkF m 5 #[oR ax, oi 0, oi 3, oR b1, .unset, .unset] [(.ref ax)])) (fun _ k => XS.aloadN X1.here hx rfl (hb hby d6_4) rfl rfl k) ?_
  refine own_go (st' := T1.setTop (mkF m 6 #[oR ax, oi 0, oi 3, oR b1, .unset, .unset] [(.int (0 : Int32)), (.ref ax)])) (fun _ k => XS.iloadN X1.here hx rfl (hb hby d6_5) rfl k) ?_
  refine own_go (st' := T1.setTop (mkF m 7 #[oR ax, oi 0, oi 3, oR b1, .unset, .unset] [(.ref b1), (.int (0 : Int32)), (.ref ax)])) (fun _ k => XS.aloadN X1.here hx rfl (hb hby d6_6) rfl rfl k) ?_
  refine own_go (st' := T1.setTop (mkF m 8 #[oR ax, oi 0, oi 3, oR b1, .unset, .unset] [(.int (0 : Int32)), (.ref b1), (.int (0 : Int32)), (.ref ax)])) (fun _ k => XS.iconst X1.here hx rfl (hb hby d6_7) k) ?_
  refine own_go (st' := T1.setTop (mkF m 9 #[oR ax, oi 0, oi 3, oR b1, .unset, .unset] [(.int (3 : Int32)), (.int (0 : Int32)), (.ref b1), (.int (0 : Int32)), (.ref ax)])) (fun _ k => XS.iloadN X1.here hx rfl (hb hby d6_8) rfl k) ?_
  have c3 : Arv Z h1 ax ka .char (3 : Int32) [(.int u0), (.int u1), (.int u2)] (.int (0 : Int32)) := (pr1.ext E1)
  obtain ⟨_, _, ⟨T2, LC2, kC2, nC2⟩, -, X2, ⟨Lc2, hQ2, lq2, yq2, zq2⟩, st2⟩ := Jvm.LawKit.callS X1 hx (y := oM6) hown (mvT hZ (own_hw hw 27)) (mvT hZ (own_hw hw 28)) (mvT hZ (own_hw hw 24)) (mvT hZ (own_hw hw 29)) (by decide) (backOf (W := 0) (rcp_3 l Z a0 hw [] ax ka b1 k1 u0 u1 u2 h1 n0 (by omega) c3 v1 (by omega) (own_ne (by omega)) hl_u0 hl_u1 hl_u2) hZ (own_hw hw 29) (own_hw hw 24) (by decide) (by decide)) (g := (mkF m 9 #[oR ax, oi 0, oi 3, oR b1, .unset, .unset] [(.int (3 : Int32)), (.int (0 : Int32)), (.ref b1), (.int (0 : Int32)), (.ref ax)])) rfl (by rw [hml]; rfl) (argsL := [(.ref ax), (.int (0 : Int32)), (.ref b1), (.int (0 : Int32)), (.int (3 : Int32))]) (rest := []) (lenOf pd_0 rfl) rfl (by show 2 * 0 + _ ≤ _; exact Nat.le_of_eq rfl) (hb hby d6_9) (fun _ _ => ⟨rfl, e1, (by decide : 1 + 0 ≤ _), (by decide : 3 + 0 ≤ _)⟩)
  dsimp only [Pt.U, Pt.locs, Pt.cells, Pt.slots] at X2 lq2 yq2 zq2 st2 hQ2
  subst lq2 yq2 zq2
  obtain ⟨h2, e2⟩ : ∃ z, T2.heap = z := ⟨_, rfl⟩
  rw [e2] at hQ2
  obtain ⟨rfl, Nq2, K2, g2_0⟩ := hQ2
  have sz2 : h1.size ≤ h2.size := K2.1
  have N2 := Fr.app N0 Nq2
  have lt2_1 : @LT.lt Nat _ b1 h2.size := g2_0.lt
  refine own_go (st' := T2.setTop (mkF m 12 #[oR ax, oi 0, oi 3, oR b1, .unset, .unset] [(.int (3 : Int32))])) (fun t k => st2 t k) ?_
  refine own_go (st' := T2.setTop (mkF m 14 #[oR ax, oi 0, oi 3, oR b1, oi 3, .unset] [])) (fun _ k => XS.istore X2.here hx rfl (hb hby d6_12) rfl (l' := #[oR ax, oi 0, oi 3, oR b1, oi 3, .unset]) rfl k) ?_
  refine own_go (st' := T2.setTop (mkF m 16 #[oR ax, oi 0, oi 3, oR b1, oi 3, .unset] [(.int (3 : Int32))])) (fun _ k => XS.iload X2.here hx rfl (hb hby d6_14) rfl k) ?_
  refine own_go (st' := T2.setTop (mkF m 17 #[oR ax, oi 0, oi 3, oR b1, oi 3, .unset] [(.int (3 : Int32)), (.int (3 : Int32))])) (fun _ k => XS.iloadN X2.here hx rfl (hb hby d6_16) rfl k) ?_
  have hc4 : (3 : Int32) = (3 : Int32) := by decide
  refine own_go (st' := T2.setTop (mkF m 57 #[oR ax, oi 0, oi 3, oR b1, oi 3, .unset] [])) (fun _ k => XS.icmpYes X2.here hx rfl (pc0 := 17) (pc' := 57) rfl (hb hby d6_17) rfl (teq hc4).1 (by decide) (by decide) k) ?_
  refine own_go (st' := T2.setTop (mkF m 58 #[oR ax, oi 0, oi 3, oR b1, oi 3, .unset] [(.ref b1)])) (fun _ k => XS.aloadN X2.here hx rfl (hb hby d6_57) rfl rfl k) ?_
  obtain ⟨fs, hr, hrun, hended, hW, hsame⟩ := X2.leave (v := some (.ref b1)) (fun h => by rw [Bd.returns] at h; cases h)
  refine ⟨_, _, ?_, hP _ _ hrun hended ⟨_, _, rfl, ?_, ⟨_, rfl⟩, hW, hsame.mono (by decide) (by decide)⟩⟩
  · exact retOut X2 hx Bd.returns rfl (Or.inr (Or.inr (Or.inr (Or.inr ⟨rfl, rfl, rfl⟩)))) (hb hby d6_58) hr
  · show Qrcq_3 Z ax ka u0 u1 u2 h0 n0 _ T2.heap _
    rw [e2]
    exact ⟨b1, k1, rfl, N2, (((Keep.refl h0 []).ext E1).trans K2 (allS (P := fun x => x ∈ [] ∨ h0.size ≤ x) (Or.inr (by omega)) all0)), g2_0, (by omega)⟩
theorem ef_rcd_3 (m : MethodId) (x0 : Addr) (x1 : Int32) : entryFrame m #[(.ref x0), (.int x1)] 2 = mkF m 0 #[.val (.ref x0), .val (.int x1)] [] := by first | (simp [entryFrame, mkF, argsToLocals, Value.category]; done) | rfl
def Qrcd_3 (Z : State) (ax : Addr) (ka : ClassId) (vs : List Value) (h0 : Heap) (n0 : Nat) (v : Option Value) (h : Heap) (L : List Loc) : Prop := (v = some (.int (0 : Int32))) ∧ (Fr n0 L) ∧ (h = h0)
set_option maxRecDepth 65536 in
set_option maxHeartbeats 40000000 in
theorem rcd_3 (l : Launch) (Z : State) (a0 : Array Value) (hw : ∀ d ∈ tables_1, d.before a0 Z = true) (ws : List Jvm.Cond) (ax : Addr) (ka : ClassId) (vs : List Value) (h0 : Heap) (n0 : Nat) (Z0 : n0 ≤ h0.size) (pr1 : Arv Z h0 ax ka .byte (3 : Int32) vs (.int (0 : Int32))) :
    MetFree l oM8 (head1 (Jvm.Cond.code oM8 jdk_52_method_15_code 2 (some .byte) :: ws) ({ frames := 0, cells := 0, slots := 0, locals := 0 } : Room)) (fun a U => a = #[(.ref ax), (.int (3 : Int32))] ∧ Z.Warmed39 U.vm ∧ U.heap = h0) (fun _ _ _ _ _ => True) (fun _ U o U' => ∃ v L, o = .returned v ∧ Qrcd_3 Z ax ka vs h0 n0 v U'.heap L ∧ FrameEnd U o U' L ({ frames := 0, cells := 0, slots := 0, locals := 0 } : Room).cells ({ frames := 0, cells := 0, slots := 0, locals := 0 } : Room).slots) := by
  refine MetFree.of_bodySF (plainFor_of_name pn_8) hisR ?_
  intro p e s m args below meth c s₁ Bd hml0 hP0 hK
  obtain ⟨rfl, hZ, hh⟩ := hP0
  have hx := Bd.exec
  have hby := Bd.bytes
  have hml : c.maxLocals = 2 := hml0
  have hown : s.vm.findClass oS5 = some m.cls := findClass_of_methodNamed Bd.named
  have hnm := (name_of_methodNamed Bd.named Bd.method).1
  have X0 : Stand p l e ({ frames := 0, cells := 0, slots := 0, locals := 0 } : Room) s m #[(.ref ax), (.int (3 : Int32))] below meth c s₁ [] 0 0 := Stand.of_body Bd
  have e0 : s₁.heap = h0 := by rw [← hh, Bd.state]; rfl
  have N0 := Fr.nil n0
  suffices own_H : ∀ (P : State → Outcome → Prop), (∀ U o, U.status = .running → Ended U below o → (∃ v L, o = .returned v ∧ Qrcd_3 Z ax ka vs h0 n0 v U.heap L ∧ FrameEnd s o U L ({ frames := 0, cells := 0, slots := 0, locals := 0 } : Room).cells ({ frames := 0, cells := 0, slots := 0, locals := 0 } : Room).slots) → P U o) → own_Go p.tables e below P (s₁.setTop (mkF m 0 #[oR ax, oi 3] [])) from own_go (fun _ k => castTop (ef_rcd_3 m ax (3 : Int32)) k) (own_H _ (fun U o h1 h2 h3 => ⟨h1, h2, h3⟩))
  intro P hP
  have lt_ax : @LT.lt Nat _ ax h0.size := pr1.lt
  refine own_go (st' := s₁.setTop (mkF m 1 #[oR ax, oi 3] [(.int (3 : Int32))])) (fun _ k => XS.iloadN X0.here hx rfl (hb hby d8_0) rfl k) ?_
  refine own_go (st' := s₁.setTop (mkF m 2 #[oR ax, oi 3] [(.ref ax), (.int (3 : Int32))])) (fun _ k => XS.aloadN X0.here hx rfl (hb hby d8_1) rfl rfl k) ?_
  obtain ⟨cl1, Ar1, -, S1, M1, -, -⟩ := id pr1
  refine own_go (st' := s₁.setTop (mkF m 3 #[oR ax, oi 3] [(.int (3 : Int32)), (.int (3 : Int32))])) (fun t k => X0.arraylength hx (by rw [e0]; exact Ar1.1) (State.isArrayOf_alike hZ.alike Ar1.2.1) (g := (mkF m 2 #[oR ax, oi 3] [(.ref ax), (.int (3 : Int32))])) rfl rfl (hb hby d8_2) t (by rw [len_of S1 M1]; exact k)) ?_
  refine own_go (st' := s₁.setTop (mkF m 4 #[oR ax, oi 3] [(.int (0 : Int32))])) (fun _ k => XS.isub X0.here hx rfl (hb hby d8_3) rfl (by rw [show ((3 : Int32) - (3 : Int32)) = (0 : Int32) by decide]; exact k)) ?_
  refine own_go (st' := s₁.setTop (mkF m 6 #[oR ax, oi 3] [(.int (31 : Int32)), (.int (0 : Int32))])) (fun _ k => XS.bipush X0.here hx rfl (hb hby d8_4) k) ?_
  refine own_go (st' := s₁.setTop (mkF m 7 #[oR ax, oi 3] [(.int (((0 : Int32).toUInt32 >>> ((31 : Int32) &&& 31).toUInt32).toInt32))])) (fun _ k => XS.iushr X0.here hx rfl (hb hby d8_6) rfl k) ?_
  refine own_go (st' := s₁.setTop (mkF m 8 #[oR ax, oi 3] [(.int (((0 : Int32).toUInt32 >>> ((31 : Int32) &&& 31).toUInt32).toInt32).toInt8.toInt32)])) (fun _ k => XS.i2b X0.here hx rfl (hb hby d8_7) rfl k) ?_
  obtain ⟨fs, hr, hrun, hended, hW, hsame⟩ := X0.leave (v := some (.int (nar .byte (((0 : Int32).toUInt32 >>> ((31 : Int32) &&& 31).toUInt32).toInt32).toInt8.toInt32))) (fun h => by rw [Bd.returns] at h; cases h)
  refine ⟨_, _, ?_, hP _ _ hrun hended ⟨_, _, rfl, ?_, ⟨_, rfl⟩, hW, hsame.mono (by decide) (by decide)⟩⟩
  · exact retN X0 hx (t := .byte) Bd.returns (by simp) (hb hby d8_8) hr
  · show Qrcd_3 Z ax ka vs h0 n0 _ s₁.heap _
    rw [e0]
    exact ⟨(congrArg (fun z => some (Value.int z)) (by decide +kernel)), N0, rfl⟩
theorem ef_rsi_3 (m : MethodId) (x0 : Addr) (x1 : Addr) (x2 : Int32) (x3 : Int32) : entryFrame m #[(.ref x0), (.ref x1), (.int x2), (.int x3), .null] 6 = mkF m 0 #[.val (.ref x0), .val (.ref x1), .val (.int x2), .val (.int x3), .val .null, .unset] [] := by first | (simp [entryFrame, mkF, argsToLocals, Value.category]; done) | rfl
def Qrsi_3 (Z : State) (a1 : Addr) (ax : Addr) (ka : ClassId) (zc : Int32) (u0 : Int32) (u1 : Int32) (u2 : Int32) (h0 : Heap) (n0 : Nat) (v : Option Value) (h : Heap) (L : List Loc) : Prop := ∃ (r : Addr) (kr : ClassId), (v = none) ∧ (Fr n0 L) ∧ (Keep h0 h [a1]) ∧ (Exa Z h a1 "java/lang/String") ∧ (Fld Z h a1 "java/lang/String" "value" "[B" (.ref r)) ∧ (Fld Z h a1 "java/lang/String" "coder" "B" (.int (0 : Int32))) ∧ (Arv Z h r kr .byte (3 : Int32) [(.int (own_by u0)), (.int (own_by u1)), (.int (own_by u2))] (.int (0 : Int32))) ∧ (h0.size ≤ r)
set_option maxRecDepth 65536 in
set_option maxHeartbeats 40000000 in
theorem rsi_3 (l : Launch) (Z : State) (a0 : Array Value) (hw : ∀ d ∈ tables_1, d.before a0 Z = true) (ws : List Jvm.Cond) (a1 : Addr) (ax : Addr) (ka : ClassId) (zc : Int32) (u0 : Int32) (u1 : Int32) (u2 : Int32) (h0 : Heap) (n0 : Nat) (Z0 : n0 ≤ h0.size) (pr1 : Exa Z h0 a1 oS0) (pr2 : Fld Z h0 a1 oS0 "value" "[B" .null) (pr3 : Fld Z h0 a1 oS0 "coder" "B" (.int (0 : Int32))) (pr4 : Arv Z h0 ax ka .char (3 : Int32) [(.int u0), (.int u1), (.int u2)] (.int (0 : Int32))) (pr5 : Sta Z h0 oS0 oS3 "Z" (.int zc)) (hzc : ¬ zc = (0 : Int32)) (hl_u0 : own_lat u0) (hl_u1 : own_lat u1) (hl_u2 : own_lat u2) (pr6 : n0 ≤ a1) (pr7 : @Ne Nat a1 ax) :
    MetFree l oM2 (head1 (Jvm.Cond.code oM2 jdk_42_method_149_code 6 none :: ws) ({ frames := 2, cells := 1, slots := 3, locals := 35 } : Room)) (fun a U => a = #[(.ref a1), (.ref ax), (.int (0 : Int32)), (.int (3 : Int32)), .null] ∧ Z.Warmed39 U.vm ∧ U.heap = h0) (fun _ _ _ _ _ => True) (fun _ U o U' => ∃ v L, o = .returned v ∧ Qrsi_3 Z a1 ax ka zc u0 u1 u2 h0 n0 v U'.heap L ∧ FrameEnd U o U' L ({ frames := 2, cells := 1, slots := 3, locals := 35 } : Room).cells ({ frames := 2, cells := 1, slots := 3, locals := 35 } : Room).slots) := by
  refine MetFree.of_bodySF (plainFor_of_name pn_4) hisR ?_
  intro p e s m args below meth c s₁ Bd hml0 hP0 hK
  obtain ⟨rfl, hZ, hh⟩ := hP0
  have hx := Bd.exec
  have hby := Bd.bytes
  have hml : c.maxLocals = 6 := hml0
  have hown : s.vm.findClass oS0 = some m.cls := findClass_of_methodNamed Bd.named
  have hnm := (name_of_methodNamed Bd.named Bd.method).1
  have X0 : Stand p l e ({ frames := 2, cells := 1, slots := 3, locals := 35 } : Room) s m #[(.ref a1), (.ref ax), (.int (0 : Int32)), (.int (3 : Int32)), .null] below meth c s₁ [] 0 0 := Stand.of_body Bd
  have e0 : s₁.heap = h0 := by rw [← hh, Bd.state]; rfl
  have N0 := Fr.nil n0
  suffices own_H : ∀ (P : State → Outcome → Prop), (∀ U o, U.status = .running → Ended U below o → (∃ v L, o = .returned v ∧ Qrsi_3 Z a1 ax ka zc u0 u1 u2 h0 n0 v U.heap L ∧ FrameEnd s o U L ({ frames := 2, cells := 1, slots := 3, locals := 35 } : Room).cells ({ frames := 2, cells := 1, slots := 3, locals := 35 } : Room).slots) → P U o) → own_Go p.tables e below P (s₁.setTop (mkF m 0 #[oR a1, oR ax, oi 0, oi 3, .val .null, .unset] [])) from own_go (fun _ k => castTop (ef_rsi_3 m a1 ax (0 : Int32) (3 : Int32)) k) (own_H _ (fun U o h1 h2 h3 => ⟨h1, h2, h3⟩))
  intro P hP
  have lt_a1 : @LT.lt Nat _ a1 h0.size := pr1.lt
  have lt_ax : @LT.lt Nat _ ax h0.size := pr4.lt
  refine own_go (st' := s₁.setTop (mkF m 1 #[oR a1, oR ax, oi 0, oi 3, .val .null, .unset] [(.ref a1)])) (fun _ k => XS.aloadN X0.here hx rfl (hb hby d4_0) rfl rfl k) ?_
  obtain ⟨T1, X1, e1, st1⟩ := initO X0 hx hZ hown (own_hw hw 18) (own_hw hw 19) (own_hw hw 20) e0 (g := (mkF m 1 #[oR a1, oR ax, oi 0, oi 3, .val .null, .unset] [(.ref a1)])) rfl (by rw [hml]; rfl) rfl (hb hby d4_1) (by decide) (W := 0) (by show 2 * 0 + _ ≤ _; exact Nat.le_of_eq rfl) (by decide)
  refine own_go (st' := T1.setTop (mkF m 4 #[oR a1, oR ax, oi 0, oi 3, .val .null, .unset] [])) (st1) ?_
  refine own_go (st' := T1.setTop (mkF m 5 #[oR a1, oR ax, oi 0, oi 3, .val .null, .unset] [(.int (3 : Int32))])) (fun _ k => XS.iloadN X1.here hx rfl (hb hby d4_4) rfl k) ?_
  have hc2 : ¬ ((3 : Int32) = (0 : Int32)) := by decide
  refine own_go (st' := T1.setTop (mkF m 27 #[oR a1, oR ax, oi 0, oi 3, .val .null, .unset] [])) (fun _ k => XS.ifYes X1.here hx rfl (pc0 := 5) (pc' := 27) rfl (hb hby d4_5) rfl ((if0 _ _).trans (feq hc2).2) (by decide) (by decide) k) ?_
  obtain ⟨T3, X3, e3, st3⟩ := getS2 X1 hx hZ hown (host := "") (Or.inl (own_hw hw 21)) Via.refl e1 pr5 (g := (mkF m 27 #[oR a1, oR ax, oi 0, oi 3, .val .null, .unset] [])) rfl (hb hby d4_27)
  refine own_go (st' := T3.setTop (mkF m 30 #[oR a1, oR ax, oi 0, oi 3, .val .null, .unset] [(.int zc)])) (st3) ?_
  have hc4 : ¬ (zc = (0 : Int32)) := hzc
  refine own_go (st' := T3.setTop (mkF m 33 #[oR a1, oR ax, oi 0, oi 3, .val .null, .unset] [])) (fun _ k => XS.ifNo X3.here hx rfl (hb hby d4_30) rfl ((if0 _ _).trans (feq hc4).1) k) ?_
  refine own_go (st' := T3.setTop (mkF m 34 #[oR a1, oR ax, oi 0, oi 3, .val .null, .unset] [(.ref ax)])) (fun _ k => XS.aloadN X3.here hx rfl (hb hby d4_33) rfl rfl k) ?_
  refine own_go (st' := T3.setTop (mkF m 35 #[oR a1, oR ax, oi 0, oi 3, .val .null, .unset] [(.int (0 : Int32)), (.ref ax)])) (fun _ k => XS.iloadN X3.here hx rfl (hb hby d4_34) rfl k) ?_
  refine own_go (st' := T3.setTop (mkF m 36 #[oR a1, oR ax, oi 0, oi 3, .val .null, .unset] [(.int (3 : Int32)), (.int (0 : Int32)), (.ref ax)])) (fun _ k => XS.iloadN X3.here hx rfl (hb hby d4_35) rfl k) ?_
  obtain ⟨_, _, ⟨T5, LC5, kC5, nC5⟩, -, X5, ⟨Lc5, hQ5, lq5, yq5, zq5⟩, st5⟩ := Jvm.LawKit.callS X3 hx (y := oM7) hown (mvT hZ (own_hw hw 22)) (mvT hZ (own_hw hw 23)) (mvT hZ (own_hw hw 24)) (mvT hZ (own_hw hw 25)) (by decide) (backOf (W := 0) (rcq_3 l Z a0 hw [] ax ka u0 u1 u2 h0 n0 (by omega) pr4 hl_u0 hl_u1 hl_u2) hZ (own_hw hw 25) (own_hw hw 24) (by decide) (by decide)) (g := (mkF m 36 #[oR a1, oR ax, oi 0, oi 3, .val .null, .unset] [(.int (3 : Int32)), (.int (0 : Int32)), (.ref ax)])) rfl (by rw [hml]; rfl) (argsL := [(.ref ax), (.int (0 : Int32)), (.int (3 : Int32))]) (rest := []) (lenOf pd_1 rfl) rfl (by show 2 * 0 + _ ≤ _; exact Nat.le_of_eq rfl) (hb hby d4_36) (fun _ _ => ⟨rfl, e3, (by decide : 0 + 1 ≤ _), (by decide : 0 + 3 ≤ _)⟩)
  dsimp only [Pt.U, Pt.locs, Pt.cells, Pt.slots] at X5 lq5 yq5 zq5 st5 hQ5
  subst lq5 yq5 zq5
  obtain ⟨h5, e5⟩ : ∃ z, T5.heap = z := ⟨_, rfl⟩
  rw [e5] at hQ5
  obtain ⟨r_5, kr_5, rfl, Nq5, K5, g5_0, g5_1⟩ := hQ5
  have sz5 : h0.size ≤ h5.size := K5.1
  have N5 := Fr.app N0 Nq5
  have lt5_1 : @LT.lt Nat _ r_5 h5.size := g5_0.lt
  refine own_go (st' := T5.setTop (mkF m 39 #[oR a1, oR ax, oi 0, oi 3, .val .null, .unset] [(.ref r_5)])) (fun t k => st5 t k) ?_
  refine own_go (st' := T5.setTop (mkF m 41 #[oR a1, oR ax, oi 0, oi 3, .val .null, oR r_5] [])) (fun _ k => XS.astore X5.here hx rfl (hb hby d4_39) rfl rfl (l' := #[oR a1, oR ax, oi 0, oi 3, .val .null, oR r_5]) rfl k) ?_
  refine own_go (st' := T5.setTop (mkF m 42 #[oR a1, oR ax, oi 0, oi 3, .val .null, oR r_5] [(.ref a1)])) (fun _ k => XS.aloadN X5.here hx rfl (hb hby d4_41) rfl rfl k) ?_
  refine own_go (st' := T5.setTop (mkF m 44 #[oR a1, oR ax, oi 0, oi 3, .val .null, oR r_5] [(.ref r_5), (.ref a1)])) (fun _ k => XS.aload X5.here hx rfl (hb hby d4_42) rfl rfl k) ?_
  refine own_go (st' := T5.setTop (mkF m 45 #[oR a1, oR ax, oi 0, oi 3, .val .null, oR r_5] [(.int (3 : Int32)), (.ref r_5), (.ref a1)])) (fun _ k => XS.iloadN X5.here hx rfl (hb hby d4_44) rfl k) ?_
  obtain ⟨_, _, ⟨T6, LC6, kC6, nC6⟩, -, X6, ⟨Lc6, hQ6, lq6, yq6, zq6⟩, st6⟩ := Jvm.LawKit.callS X5 hx (y := oM8) hown (mvT hZ (own_hw hw 30)) (mvT hZ (own_hw hw 31)) (mvT hZ (own_hw hw 24)) (mvT hZ (own_hw hw 32)) (by decide) (backOf (W := 1) (rcd_3 l Z a0 hw [] r_5 kr_5 [(.int (own_by u0)), (.int (own_by u1)), (.int (own_by u2))] h5 n0 (by omega) g5_0) hZ (own_hw hw 32) (own_hw hw 24) (by decide) (by decide)) (g := (mkF m 45 #[oR a1, oR ax, oi 0, oi 3, .val .null, oR r_5] [(.int (3 : Int32)), (.ref r_5), (.ref a1)])) rfl (by rw [hml]; rfl) (argsL := [(.ref r_5), (.int (3 : Int32))]) (rest := [(.ref a1)]) (lenOf pd_2 rfl) rfl (by show 2 * 0 + _ ≤ _; exact Nat.le_of_eq rfl) (hb hby d4_45) (fun _ _ => ⟨rfl, e5, (by decide : 1 + 0 ≤ _), (by decide : 3 + 0 ≤ _)⟩)
  dsimp only [Pt.U, Pt.locs, Pt.cells, Pt.slots] at X6 lq6 yq6 zq6 st6 hQ6
  subst lq6 yq6 zq6
  obtain ⟨rfl, Nq6, eq6⟩ := hQ6
  have N6 := Fr.app N5 Nq6
  refine own_go (st' := T6.setTop (mkF m 48 #[oR a1, oR ax, oi 0, oi 3, .val .null, oR r_5] [(.int (0 : Int32)), (.ref a1)])) (fun t k => st6 t k) ?_
  have c7 : Fld Z h5 a1 oS0 "coder" "B" (.int (0 : Int32)) := (pr3.keep K5 nin0)
  have c8 : Exa Z h5 a1 oS0 := (pr1.keep K5)
  obtain ⟨T9, h9, X9, e9, W9, st9⟩ := putFN X6 hx hZ hown (own_hw hw 33) Via.refl eq6 c7 c8 (Or.inr ⟨(own_hw hw 34), rfl, hnm⟩) (own_hw hw 8) (ty := .byte) (v' := (.int (0 : Int32))) (by decide) rfl rfl (g := (mkF m 48 #[oR a1, oR ax, oi 0, oi 3, .val .null, oR r_5] [(.int (0 : Int32)), (.ref a1)])) rfl rfl (hb hby d4_48)
  have sz9 : h9.size = h5.size := W9.size
  have N9 := Fr.snoc X9 N6 (by omega)
  have f9 : Fld Z h9 a1 oS0 "coder" "B" (.int (0 : Int32)) := c7.same W9
  refine own_go (st' := T9.setTop (mkF m 51 #[oR a1, oR ax, oi 0, oi 3, .val .null, oR r_5] [])) (st9) ?_
  refine own_go (st' := T9.setTop (mkF m 52 #[oR a1, oR ax, oi 0, oi 3, .val .null, oR r_5] [(.ref a1)])) (fun _ k => XS.aloadN X9.here hx rfl (hb hby d4_51) rfl rfl k) ?_
  refine own_go (st' := T9.setTop (mkF m 54 #[oR a1, oR ax, oi 0, oi 3, .val .null, oR r_5] [(.ref r_5), (.ref a1)])) (fun _ k => XS.aload X9.here hx rfl (hb hby d4_52) rfl rfl k) ?_
  have c10 : Fld Z h9 a1 oS0 "value" "[B" .null := ((pr2.keep K5 nin0).other W9 (Or.inr (slot_ne (Or.inr (own_hw hw 36)) (Or.inr (own_hw hw 34)) (by decide) (t := (.array .byte)) (t' := .byte) (by decide) (by decide))))
  have c11 : Exa Z h9 a1 oS0 := (c8.wr W9)
  obtain ⟨T12, h12, X12, e12, W12, st12⟩ := putF X9 hx hZ hown (host := "") (Or.inl (own_hw hw 35)) Via.refl e9 c10 c11 (Or.inr ⟨(own_hw hw 36), rfl, hnm⟩) (own_hw hw 8) (ty := (.array .byte)) (by decide) rfl rfl (g := (mkF m 54 #[oR a1, oR ax, oi 0, oi 3, .val .null, oR r_5] [(.ref r_5), (.ref a1)])) rfl rfl (hb hby d4_54)
  have sz12 : h12.size = h9.size := W12.size
  have N12 := Fr.snoc X12 N9 (by omega)
  have f12 : Fld Z h12 a1 oS0 "value" "[B" (.ref r_5) := c10.same W12
  refine own_go (st' := T12.setTop (mkF m 57 #[oR a1, oR ax, oi 0, oi 3, .val .null, oR r_5] [])) (st12) ?_
  obtain ⟨fs, hr, hrun, hended, hW, hsame⟩ := X12.leave (v := none) (fun _ => rfl)
  refine ⟨_, _, ?_, hP _ _ hrun hended ⟨_, _, rfl, ?_, ⟨_, rfl⟩, hW, hsame.mono (by decide) (by decide)⟩⟩
  · exact X12.returnOut hx Bd.returns (hb hby d4_57) hr
  · show Qrsi_3 Z a1 ax ka zc u0 u1 u2 h0 n0 _ T12.heap _
    have c14 : Exa Z h12 a1 oS0 := (c11.wr W12)
    have c15 : Fld Z h12 a1 oS0 "coder" "B" (.int (0 : Int32)) := (f9.other W12 (Or.inr (slot_ne (Or.inr (own_hw hw 34)) (Or.inr (own_hw hw 36)) (by decide) (t := .byte) (t' := (.array .byte)) (by decide) (by decide))))
    have c16 : Arv Z h12 r_5 kr_5 .byte (3 : Int32) [(.int (own_by u0)), (.int (own_by u1)), (.int (own_by u2))] (.int (0 : Int32)) := ((g5_0.other W9 (own_ne (by omega))).other W12 (own_ne (by omega)))
    rw [e12]
    exact ⟨r_5, kr_5, rfl, N12, ((((Keep.refl h0 [a1]).trans K5 all0).wr W9 (Or.inl (List.mem_of_getElem? (i := 0) rfl))).wr W12 (Or.inl (List.mem_of_getElem? (i := 0) rfl))), c14, f12, c15, c16, (by omega)⟩
theorem ef_rsc_3 (m : MethodId) (x0 : Addr) (x1 : Addr) : entryFrame m #[(.ref x0), (.ref x1)] 2 = mkF m 0 #[.val (.ref x0), .val (.ref x1)] [] := by first | (simp [entryFrame, mkF, argsToLocals, Value.category]; done) | rfl
def Qrsc_3 (Z : State) (a1 : Addr) (ax : Addr) (ka : ClassId) (zc : Int32) (u0 : Int32) (u1 : Int32) (u2 : Int32) (h0 : Heap) (n0 : Nat) (v : Option Value) (h : Heap) (L : List Loc) : Prop := ∃ (r : Addr) (kr : ClassId), (v = none) ∧ (Fr n0 L) ∧ (Keep h0 h [a1]) ∧ (Exa Z h a1 "java/lang/String") ∧ (Fld Z h a1 "java/lang/String" "value" "[B" (.ref r)) ∧ (Fld Z h a1 "java/lang/String" "coder" "B" (.int (0 : Int32))) ∧ (Arv Z h r kr .byte (3 : Int32) [(.int (own_by u0)), (.int (own_by u1)), (.int (own_by u2))] (.int (0 : Int32))) ∧ (h0.size ≤ r)
set_option maxRecDepth 65536 in
set_option maxHeartbeats 40000000 in
theorem rsc_3 (l : Launch) (Z : State) (a0 : Array Value) (hw : ∀ d ∈ tables_1, d.before a0 Z = true) (ws : List Jvm.Cond) (a1 : Addr) (ax : Addr) (ka : ClassId) (zc : Int32) (u0 : Int32) (u1 : Int32) (u2 : Int32) (h0 : Heap) (n0 : Nat) (Z0 : n0 ≤ h0.size) (pr1 : Exa Z h0 a1 oS0) (pr2 : Fld Z h0 a1 oS0 "value" "[B" .null) (pr3 : Fld Z h0 a1 oS0 "coder" "B" (.int (0 : Int32))) (pr4 : Arv Z h0 ax ka .char (3 : Int32) [(.int u0), (.int u1), (.int u2)] (.int (0 : Int32))) (pr5 : Sta Z h0 oS0 oS3 "Z" (.int zc)) (hzc : ¬ zc = (0 : Int32)) (hl_u0 : own_lat u0) (hl_u1 : own_lat u1) (hl_u2 : own_lat u2) (pr6 : n0 ≤ a1) (pr7 : @Ne Nat a1 ax) :
    MetFree l oM3 (head1 (Jvm.Cond.code oM3 jdk_42_method_3_code 2 none :: ws) ({ frames := 3, cells := 1, slots := 3, locals := 52 } : Room)) (fun a U => a = #[(.ref a1), (.ref ax)] ∧ Z.Warmed39 U.vm ∧ U.heap = h0) (fun _ _ _ _ _ => True) (fun _ U o U' => ∃ v L, o = .returned v ∧ Qrsc_3 Z a1 ax ka zc u0 u1 u2 h0 n0 v U'.heap L ∧ FrameEnd U o U' L ({ frames := 3, cells := 1, slots := 3, locals := 52 } : Room).cells ({ frames := 3, cells := 1, slots := 3, locals := 52 } : Room).slots) := by
  refine MetFree.of_bodySF (plainFor_of_name pn_3) hisR ?_
  intro p e s m args below meth c s₁ Bd hml0 hP0 hK
  obtain ⟨rfl, hZ, hh⟩ := hP0
  have hx := Bd.exec
  have hby := Bd.bytes
  have hml : c.maxLocals = 2 := hml0
  have hown : s.vm.findClass oS0 = some m.cls := findClass_of_methodNamed Bd.named
  have hnm := (name_of_methodNamed Bd.named Bd.method).1
  have X0 : Stand p l e ({ frames := 3, cells := 1, slots := 3, locals := 52 } : Room) s m #[(.ref a1), (.ref ax)] below meth c s₁ [] 0 0 := Stand.of_body Bd
  have e0 : s₁.heap = h0 := by rw [← hh, Bd.state]; rfl
  have N0 := Fr.nil n0
  suffices own_H : ∀ (P : State → Outcome → Prop), (∀ U o, U.status = .running → Ended U below o → (∃ v L, o = .returned v ∧ Qrsc_3 Z a1 ax ka zc u0 u1 u2 h0 n0 v U.heap L ∧ FrameEnd s o U L ({ frames := 3, cells := 1, slots := 3, locals := 52 } : Room).cells ({ frames := 3, cells := 1, slots := 3, locals := 52 } : Room).slots) → P U o) → own_Go p.tables e below P (s₁.setTop (mkF m 0 #[oR a1, oR ax] [])) from own_go (fun _ k => castTop (ef_rsc_3 m a1 ax) k) (own_H _ (fun U o h1 h2 h3 => ⟨h1, h2, h3⟩))
  intro P hP
  have lt_a1 : @LT.lt Nat _ a1 h0.size := pr1.lt
  have lt_ax : @LT.lt Nat _ ax h0.size := pr4.lt
  refine own_go (st' := s₁.setTop (mkF m 1 #[oR a1, oR ax] [(.ref a1)])) (fun _ k => XS.aloadN X0.here hx rfl (hb hby d3_0) rfl rfl k) ?_
  refine own_go (st' := s₁.setTop (mkF m 2 #[oR a1, oR ax] [(.ref ax), (.ref a1)])) (fun _ k => XS.aloadN X0.here hx rfl (hb hby d3_1) rfl rfl k) ?_
  refine own_go (st' := s₁.setTop (mkF m 3 #[oR a1, oR ax] [(.int (0 : Int32)), (.ref ax), (.ref a1)])) (fun _ k => XS.iconst X0.here hx rfl (hb hby d3_2) k) ?_
  refine own_go (st' := s₁.setTop (mkF m 4 #[oR a1, oR ax] [(.ref ax), (.int (0 : Int32)), (.ref ax), (.ref a1)])) (fun _ k => XS.aloadN X0.here hx rfl (hb hby d3_3) rfl rfl k) ?_
  obtain ⟨cl1, Ar1, -, S1, M1, -, -⟩ := id pr4
  refine own_go (st' := s₁.setTop (mkF m 5 #[oR a1, oR ax] [(.int (3 : Int32)), (.int (0 : Int32)), (.ref ax), (.ref a1)])) (fun t k => X0.arraylength hx (by rw [e0]; exact Ar1.1) (State.isArrayOf_alike hZ.alike Ar1.2.1) (g := (mkF m 4 #[oR a1, oR ax] [(.ref ax), (.int (0 : Int32)), (.ref ax), (.ref a1)])) rfl rfl (hb hby d3_4) t (by rw [len_of S1 M1]; exact k)) ?_
  refine own_go (st' := s₁.setTop (mkF m 6 #[oR a1, oR ax] [.null, (.int (3 : Int32)), (.int (0 : Int32)), (.ref ax), (.ref a1)])) (fun _ k => XS.aconstNull X0.here hx rfl (hb hby d3_5) k) ?_
  obtain ⟨_, _, ⟨T2, LC2, kC2, nC2⟩, -, X2, ⟨Lc2, hQ2, lq2, yq2, zq2⟩, st2⟩ := X0.specialBack hx (y := oM2) rfl hown (mvT hZ (own_hw hw 14)) (mvT hZ (own_hw hw 15)) (mvT hZ (own_hw hw 17)) (by decide) (backOf (W := 0) (rsi_3 l Z a0 hw [] a1 ax ka zc u0 u1 u2 h0 n0 (by omega) pr1 pr2 pr3 pr4 pr5 (by assumption) hl_u0 hl_u1 hl_u2 (by omega) (own_ne (by omega))) hZ (own_hw hw 17) (own_hw hw 9) (by decide) (by decide)) (g := (mkF m 6 #[oR a1, oR ax] [.null, (.int (3 : Int32)), (.int (0 : Int32)), (.ref ax), (.ref a1)])) rfl (by rw [hml]; rfl) (Steps.refl _) (a := a1) (argsL := [(.ref ax), (.int (0 : Int32)), (.int (3 : Int32)), .null]) (rest := []) (lenOf pd_3 rfl) rfl (by show 2 * 0 + _ ≤ _; exact Nat.le_of_eq rfl) (hb hby d3_6) (fun _ _ => ⟨rfl, e0, (by decide : 0 + 1 ≤ _), (by decide : 0 + 3 ≤ _)⟩)
  dsimp only [Pt.U, Pt.locs, Pt.cells, Pt.slots] at X2 lq2 yq2 zq2 st2 hQ2
  subst lq2 yq2 zq2
  obtain ⟨h2, e2⟩ : ∃ z, T2.heap = z := ⟨_, rfl⟩
  rw [e2] at hQ2
  obtain ⟨r_2, kr_2, rfl, Nq2, K2, g2_0, g2_1, g2_2, g2_3, g2_4⟩ := hQ2
  have sz2 : h0.size ≤ h2.size := K2.1
  have N2 := Fr.app N0 Nq2
  have lt2_1 : @LT.lt Nat _ a1 h2.size := g2_0.lt
  have lt2_2 : @LT.lt Nat _ r_2 h2.size := g2_3.lt
  refine own_go (st' := T2.setTop (mkF m 9 #[oR a1, oR ax] [])) (fun _ k => st2.trans k) ?_
  obtain ⟨fs, hr, hrun, hended, hW, hsame⟩ := X2.leave (v := none) (fun _ => rfl)
  refine ⟨_, _, ?_, hP _ _ hrun hended ⟨_, _, rfl, ?_, ⟨_, rfl⟩, hW, hsame.mono (by decide) (by decide)⟩⟩
  · exact X2.returnOut hx Bd.returns (hb hby d3_9) hr
  · show Qrsc_3 Z a1 ax ka zc u0 u1 u2 h0 n0 _ T2.heap _
    rw [e2]
    exact ⟨r_2, kr_2, rfl, N2, ((Keep.refl h0 [a1]).trans K2 (allS (P := fun x => x ∈ [a1] ∨ h0.size ≤ x) (Or.inl (List.mem_of_getElem? (i := 0) rfl)) all0)), g2_0, g2_1, g2_2, g2_3, (by omega)⟩
theorem ef_rcp_4 (m : MethodId) (x0 : Addr) (x1 : Int32) (x2 : Addr) (x3 : Int32) (x4 : Int32) : entryFrame m #[(.ref x0), (.int x1), (.ref x2), (.int x3), (.int x4)] 7 = mkF m 0 #[.val (.ref x0), .val (.int x1), .val (.ref x2), .val (.int x3), .val (.int x4), .unset, .unset] [] := by first | (simp [entryFrame, mkF, argsToLocals, Value.category]; done) | rfl
def Qrcp_4 (Z : State) (ax : Addr) (ka : ClassId) (ay : Addr) (kb : ClassId) (u0 : Int32) (u1 : Int32) (u2 : Int32) (u3 : Int32) (h0 : Heap) (n0 : Nat) (v : Option Value) (h : Heap) (L : List Loc) : Prop := (v = some (.int (4 : Int32))) ∧ (Fr n0 L) ∧ (Keep h0 h [ay]) ∧ (Arv Z h ay kb .byte (4 : Int32) [(.int (own_by u0)), (.int (own_by u1)), (.int (own_by u2)), (.int (own_by u3))] (.int (0 : Int32)))
set_option maxRecDepth 65536 in
set_option maxHeartbeats 40000000 in
theorem rcp_4 (l : Launch) (Z : State) (a0 : Array Value) (hw : ∀ d ∈ tables_1, d.before a0 Z = true) (ws : List Jvm.Cond) (ax : Addr) (ka : ClassId) (ay : Addr) (kb : ClassId) (u0 : Int32) (u1 : Int32) (u2 : Int32) (u3 : Int32) (h0 : Heap) (n0 : Nat) (Z0 : n0 ≤ h0.size) (pr1 : Arv Z h0 ax ka .char (4 : Int32) [(.int u0), (.int u1), (.int u2), (.int u3)] (.int (0 : Int32))) (pr2 : Arv Z h0 ay kb .byte (4 : Int32) [(.int (0 : Int32)), (.int (0 : Int32)), (.int (0 : Int32)), (.int (0 : Int32))] (.int (0 : Int32))) (pr3 : n0 ≤ ay) (pr4 : @Ne Nat ax ay) (hl_u0 : own_lat u0) (hl_u1 : own_lat u1) (hl_u2 : own_lat u2) (hl_u3 : own_lat u3) :
    MetFree l oM6 (head1 (Jvm.Cond.code oM6 jdk_52_method_21_code 7 (some .int) :: ws) ({ frames := 0, cells := 0, slots := 0, locals := 0 } : Room)) (fun a U => a = #[(.ref ax), (.int (0 : Int32)), (.ref ay), (.int (0 : Int32)), (.int (4 : Int32))] ∧ Z.Warmed39 U.vm ∧ U.heap = h0) (fun _ _ _ _ _ => True) (fun _ U o U' => ∃ v L, o = .returned v ∧ Qrcp_4 Z ax ka ay kb u0 u1 u2 u3 h0 n0 v U'.heap L ∧ FrameEnd U o U' L ({ frames := 0, cells := 0, slots := 0, locals := 0 } : Room).cells ({ frames := 0, cells := 0, slots := 0, locals := 0 } : Room).slots) := by
  refine MetFree.of_bodySF (plainFor_of_name pn_7) hisR ?_
  intro p e s m args below meth c s₁ Bd hml0 hP0 hK
  obtain ⟨rfl, hZ, hh⟩ := hP0
  have hx := Bd.exec
  have hby := Bd.bytes
  have hml : c.maxLocals = 7 := hml0
  have hown : s.vm.findClass oS5 = some m.cls := findClass_of_methodNamed Bd.named
  have hnm := (name_of_methodNamed Bd.named Bd.method).1
  have X0 : Stand p l e ({ frames := 0, cells := 0, slots := 0, locals := 0 } : Room) s m #[(.ref ax), (.int (0 : Int32)), (.ref ay), (.int (0 : Int32)), (.int (4 : Int32))] below meth c s₁ [] 0 0 := Stand.of_body Bd
  have e0 : s₁.heap = h0 := by rw [← hh, Bd.state]; rfl
  have N0 := Fr.nil n0
  suffices own_H : ∀ (P : State → Outcome → Prop), (∀ U o, U.status = .running → Ended U below o → (∃ v L, o = .returned v ∧ Qrcp_4 Z ax ka ay kb u0 u1 u2 u3 h0 n0 v U.heap L ∧ FrameEnd s o U L ({ frames := 0, cells := 0, slots := 0, locals := 0 } : Room).cells ({ frames := 0, cells := 0, slots := 0, locals := 0 } : Room).slots) → P U o) → own_Go p.tables e below P (s₁.setTop (mkF m 0 #[oR ax, oi 0, oR ay, oi 0, oi 4, .unset, .unset] [])) from own_go (fun _ k => castTop (ef_rcp_4 m ax (0 : Int32) ay (0 : Int32) (4 : Int32)) k) (own_H _ (fun U o h1 h2 h3 => ⟨h1, h2, h3⟩))
  intro P hP
  have lt_ax : @LT.lt Nat _ ax h0.size := pr1.lt
  have lt_ay : @LT.lt Nat _ ay h0.size := pr2.lt
  refine own_go (st' := s₁.setTop (mkF m 1 #[oR ax, oi 0, oR ay, oi 0, oi 4, .unset, .unset] [(.int (0 : Int32))])) (fun _ k => XS.iconst X0.here hx rfl (hb hby d7_0) k) ?_
  refine own_go (st' := s₁.setTop (mkF m 3 #[oR ax, oi 0, oR ay, oi 0, oi 4, oi 0, .unset] [])) (fun _ k => XS.istore X0.here hx rfl (hb hby d7_1) rfl (l' := #[oR ax, oi 0, oR ay, oi 0, oi 4, oi 0, .unset]) rfl k) ?_
  refine own_go (st' := s₁.setTop (mkF m 5 #[oR ax, oi 0, oR ay, oi 0, oi 4, oi 0, .unset] [(.int (0 : Int32))])) (fun _ k => XS.iload X0.here hx rfl (hb hby d7_3) rfl k) ?_
  refine own_go (st' := s₁.setTop (mkF m 7 #[oR ax, oi 0, oR ay, oi 0, oi 4, oi 0, .unset] [(.int (4 : Int32)), (.int (0 : Int32))])) (fun _ k => XS.iload X0.here hx rfl (hb hby d7_5) rfl k) ?_
  have hc1 : (0 : Int32) < (4 : Int32) := by decide
  refine own_go (st' := s₁.setTop (mkF m 10 #[oR ax, oi 0, oR ay, oi 0, oi 4, oi 0, .unset] [])) (fun _ k => XS.icmpNo X0.here hx rfl (hb hby d7_7) rfl (tlt hc1).2.1 k) ?_
  refine own_go (st' := s₁.setTop (mkF m 11 #[oR ax, oi 0, oR ay, oi 0, oi 4, oi 0, .unset] [(.ref ax)])) (fun _ k => XS.aloadN X0.here hx rfl (hb hby d7_10) rfl rfl k) ?_
  refine own_go (st' := s₁.setTop (mkF m 12 #[oR ax, oi 0, oR ay, oi 0, oi 4, oi 0, .unset] [(.int (0 : Int32)), (.ref ax)])) (fun _ k => XS.iloadN X0.here hx rfl (hb hby d7_11) rfl k) ?_
  obtain ⟨cl2, Ar2, -, S2, M2, H2, -⟩ := id pr1
  have hin2 : ¬ ((0 : Int32) < 0 ∨ cl2.slots.size ≤ ((0 : Int32)).toNatClampNeg) := (inb_of S2 ⟨by decide, by decide⟩)
  have hat2 : cl2.slots[((0 : Int32)).toNatClampNeg]? = some (.int u0) := (H2.at hin2 rfl)
  refine own_go (st' := s₁.setTop (mkF m 13 #[oR ax, oi 0, oR ay, oi 0, oi 4, oi 0, .unset] [(.int u0)])) (X0.caload hx (j := (0 : Int32)) (v := (.int u0)) (by rw [e0]; exact Ar2.1) (State.isArrayOf_alike hZ.alike Ar2.2.1) Ar2.2.2 hin2 hat2 (g := (mkF m 12 #[oR ax, oi 0, oR ay, oi 0, oi 4, oi 0, .unset] [(.int (0 : Int32)), (.ref ax)])) rfl rfl (hb hby d7_12)) ?_
  refine own_go (st' := s₁.setTop (mkF m 15 #[oR ax, oi 0, oR ay, oi 0, oi 4, oi 0, oi u0] [])) (fun _ k => XS.istore X0.here hx rfl (hb hby d7_13) rfl (l' := #[oR ax, oi 0, oR ay, oi 0, oi 4, oi 0, oi u0]) rfl k) ?_
  refine own_go (st' := s₁.setTop (mkF m 17 #[oR ax, oi 0, oR ay, oi 0, oi 4, oi 0, oi u0] [(.int u0)])) (fun _ k => XS.iload X0.here hx rfl (hb hby d7_15) rfl k) ?_
  refine own_go (st' := s₁.setTop (mkF m 20 #[oR ax, oi 0, oR ay, oi 0, oi 4, oi 0, oi u0] [(.int (255 : Int32)), (.int u0)])) (fun _ k => XS.sipush X0.here hx rfl (hb hby d7_17) k) ?_
  have hc3 : ¬ ((255 : Int32) < u0) := (own_lat_le hl_u0)
  refine own_go (st' := s₁.setTop (mkF m 26 #[oR ax, oi 0, oR ay, oi 0, oi 4, oi 0, oi u0] [])) (fun _ k => XS.icmpYes X0.here hx rfl (pc0 := 20) (pc' := 26) rfl (hb hby d7_20) rfl (flt hc3).2.2.2 (by decide) (by decide) k) ?_
  refine own_go (st' := s₁.setTop (mkF m 27 #[oR ax, oi 0, oR ay, oi 0, oi 4, oi 0, oi u0] [(.ref ay)])) (fun _ k => XS.aloadN X0.here hx rfl (hb hby d7_26) rfl rfl k) ?_
  refine own_go (st' := s₁.setTop (mkF m 28 #[oR ax, oi 0, oR ay, oi 0, oi 4, oi 0, oi u0] [(.int (0 : Int32)), (.ref ay)])) (fun _ k => XS.iloadN X0.here hx rfl (hb hby d7_27) rfl k) ?_
  refine own_go (st' := s₁.setTop (mkF m 30 #[oR ax, oi 0, oR ay, oi 0, oi 4, oi 0, oi u0] [(.int u0), (.int (0 : Int32)), (.ref ay)])) (fun _ k => XS.iload X0.here hx rfl (hb hby d7_28) rfl k) ?_
  refine own_go (st' := s₁.setTop (mkF m 31 #[oR ax, oi 0, oR ay, oi 0, oi 4, oi 0, oi u0] [(.int u0.toInt8.toInt32), (.int (0 : Int32)), (.ref ay)])) (fun _ k => XS.i2b X0.here hx rfl (hb hby d7_30) rfl k) ?_
  obtain ⟨cl4, Ar4, qc4, S4, M4, H4, G4⟩ := id pr2
  have hin4 : ¬ ((0 : Int32) < 0 ∨ cl4.slots.size ≤ ((0 : Int32)).toNatClampNeg) := (inb_of S4 ⟨by decide, by decide⟩)
  obtain ⟨T4, h4, X4, e4, W4, st4⟩ := stB X0 hx hZ e0 Ar4 (j := (0 : Int32)) hin4 (g := (mkF m 31 #[oR ax, oi 0, oR ay, oi 0, oi 4, oi 0, oi u0] [(.int u0.toInt8.toInt32), (.int (0 : Int32)), (.ref ay)])) rfl rfl (hb hby d7_31)
  have sz4 : h4.size = h0.size := W4.size
  have N4 := Fr.snoc X4 N0 (by omega)
  have v4 : Arv Z h4 ay kb .byte (4 : Int32) [(.int (nar .byte u0.toInt8.toInt32)), (.int (0 : Int32)), (.int (0 : Int32)), (.int (0 : Int32))] (.int (0 : Int32)) := Arv.set Ar4 qc4 S4 M4 H4 G4 (fits_nar_byte _) W4 0 rfl (Nat.le_of_ble_eq_true rfl)
  refine own_go (st' := T4.setTop (mkF m 32 #[oR ax, oi 0, oR ay, oi 0, oi 4, oi 0, oi u0] [])) (st4) ?_
  refine own_go (st' := T4.setTop (mkF m 35 #[oR ax, oi 1, oR ay, oi 0, oi 4, oi 0, oi u0] [])) (fun _ k => XS.iinc X4.here hx rfl (hb hby d7_32) rfl (l' := #[oR ax, oi 1, oR ay, oi 0, oi 4, oi 0, oi u0]) (by rw [show ((0 : Int32) + Int32.ofInt 1) = (1 : Int32) by decide]; rfl) k) ?_
  refine own_go (st' := T4.setTop (mkF m 38 #[oR ax, oi 1, oR ay, oi 1, oi 4, oi 0, oi u0] [])) (fun _ k => XS.iinc X4.here hx rfl (hb hby d7_35) rfl (l' := #[oR ax, oi 1, oR ay, oi 1, oi 4, oi 0, oi u0]) (by rw [show ((0 : Int32) + Int32.ofInt 1) = (1 : Int32) by decide]; rfl) k) ?_
  refine own_go (st' := T4.setTop (mkF m 41 #[oR ax, oi 1, oR ay, oi 1, oi 4, oi 1, oi u0] [])) (fun _ k => XS.iinc X4.here hx rfl (hb hby d7_38) rfl (l' := #[oR ax, oi 1, oR ay, oi 1, oi 4, oi 1, oi u0]) (by rw [show ((0 : Int32) + Int32.ofInt 1) = (1 : Int32) by decide]; rfl) k) ?_
  refine own_go (st' := T4.setTop (mkF m 3 #[oR ax, oi 1, oR ay, oi 1, oi 4, oi 1, oi u0] [])) (fun _ k => XS.goto X4.here hx rfl (pc0 := 41) (pc' := 3) rfl (hb hby d7_41) (by decide) (by decide) k) ?_
  refine own_go (st' := T4.setTop (mkF m 5 #[oR ax, oi 1, oR ay, oi 1, oi 4, oi 1, oi u0] [(.int (1 : Int32))])) (fun _ k => XS.iload X4.here hx rfl (hb hby d7_3) rfl k) ?_
  refine own_go (st' := T4.setTop (mkF m 7 #[oR ax, oi 1, oR ay, oi 1, oi 4, oi 1, oi u0] [(.int (4 : Int32)), (.int (1 : Int32))])) (fun _ k => XS.iload X4.here hx rfl (hb hby d7_5) rfl k) ?_
  have hc5 : (1 : Int32) < (4 : Int32) := by decide
  refine own_go (st' := T4.setTop (mkF m 10 #[oR ax, oi 1, oR ay, oi 1, oi 4, oi 1, oi u0] [])) (fun _ k => XS.icmpNo X4.here hx rfl (hb hby d7_7) rfl (tlt hc5).2.1 k) ?_
  refine own_go (st' := T4.setTop (mkF m 11 #[oR ax, oi 1, oR ay, oi 1, oi 4, oi 1, oi u0] [(.ref ax)])) (fun _ k => XS.aloadN X4.here hx rfl (hb hby d7_10) rfl rfl k) ?_
  refine own_go (st' := T4.setTop (mkF m 12 #[oR ax, oi 1, oR ay, oi 1, oi 4, oi 1, oi u0] [(.int (1 : Int32)), (.ref ax)])) (fun _ k => XS.iloadN X4.here hx rfl (hb hby d7_11) rfl k) ?_
  have c6 : Arv Z h4 ax ka .char (4 : Int32) [(.int u0), (.int u1), (.int u2), (.int u3)] (.int (0 : Int32)) := (pr1.other W4 (own_ne (by omega)))
  obtain ⟨cl7, Ar7, -, S7, M7, H7, -⟩ := id c6
  have hin7 : ¬ ((1 : Int32) < 0 ∨ cl7.slots.size ≤ ((1 : Int32)).toNatClampNeg) := (inb_of S7 ⟨by decide, by decide⟩)
  have hat7 : cl7.slots[((1 : Int32)).toNatClampNeg]? = some (.int u1) := (H7.at hin7 rfl)
  refine own_go (st' := T4.setTop (mkF m 13 #[oR ax, oi 1, oR ay, oi 1, oi 4, oi 1, oi u0] [(.int u1)])) (X4.caload hx (j := (1 : Int32)) (v := (.int u1)) (by rw [e4]; exact Ar7.1) (State.isArrayOf_alike hZ.alike Ar7.2.1) Ar7.2.2 hin7 hat7 (g := (mkF m 12 #[oR ax, oi 1, oR ay, oi 1, oi 4, oi 1, oi u0] [(.int (1 : Int32)), (.ref ax)])) rfl rfl (hb hby d7_12)) ?_
  refine own_go (st' := T4.setTop (mkF m 15 #[oR ax, oi 1, oR ay, oi 1, oi 4, oi 1, oi u1] [])) (fun _ k => XS.istore X4.here hx rfl (hb hby d7_13) rfl (l' := #[oR ax, oi 1, oR ay, oi 1, oi 4, oi 1, oi u1]) rfl k) ?_
  refine own_go (st' := T4.setTop (mkF m 17 #[oR ax, oi 1, oR ay, oi 1, oi 4, oi 1, oi u1] [(.int u1)])) (fun _ k => XS.iload X4.here hx rfl (hb hby d7_15) rfl k) ?_
  refine own_go (st' := T4.setTop (mkF m 20 #[oR ax, oi 1, oR ay, oi 1, oi 4, oi 1, oi u1] [(.int (255 : Int32)), (.int u1)])) (fun _ k => XS.sipush X4.here hx rfl (hb hby d7_17) k) ?_
  have hc8 : ¬ ((255 : Int32) < u1) := (own_lat_le hl_u1)
  refine own_go (st' := T4.setTop (mkF m 26 #[oR ax, oi 1, oR ay, oi 1, oi 4, oi 1, oi u1] [])) (fun _ k => XS.icmpYes X4.here hx rfl (pc0 := 20) (pc' := 26) rfl (hb hby d7_20) rfl (flt hc8).2.2.2 (by decide) (by decide) k) ?_
  refine own_go (st' := T4.setTop (mkF m 27 #[oR ax, oi 1, oR ay, oi 1, oi 4, oi 1, oi u1] [(.ref ay)])) (fun _ k => XS.aloadN X4.here hx rfl (hb hby d7_26) rfl rfl k) ?_
  refine own_go (st' := T4.setTop (mkF m 28 #[oR ax, oi 1, oR ay, oi 1, oi 4, oi 1, oi u1] [(.int (1 : Int32)), (.ref ay)])) (fun _ k => XS.iloadN X4.here hx rfl (hb hby d7_27) rfl k) ?_
  refine own_go (st' := T4.setTop (mkF m 30 #[oR ax, oi 1, oR ay, oi 1, oi 4, oi 1, oi u1] [(.int u1), (.int (1 : Int32)), (.ref ay)])) (fun _ k => XS.iload X4.here hx rfl (hb hby d7_28) rfl k) ?_
  refine own_go (st' := T4.setTop (mkF m 31 #[oR ax, oi 1, oR ay, oi 1, oi 4, oi 1, oi u1] [(.int u1.toInt8.toInt32), (.int (1 : Int32)), (.ref ay)])) (fun _ k => XS.i2b X4.here hx rfl (hb hby d7_30) rfl k) ?_
  obtain ⟨cl9, Ar9, qc9, S9, M9, H9, G9⟩ := id v4
  have hin9 : ¬ ((1 : Int32) < 0 ∨ cl9.slots.size ≤ ((1 : Int32)).toNatClampNeg) := (inb_of S9 ⟨by decide, by decide⟩)
  obtain ⟨T9, h9, X9, e9, W9, st9⟩ := stB X4 hx hZ e4 Ar9 (j := (1 : Int32)) hin9 (g := (mkF m 31 #[oR ax, oi 1, oR ay, oi 1, oi 4, oi 1, oi u1] [(.int u1.toInt8.toInt32), (.int (1 : Int32)), (.ref ay)])) rfl rfl (hb hby d7_31)
  have sz9 : h9.size = h4.size := W9.size
  have N9 := Fr.snoc X9 N4 (by omega)
  have v9 : Arv Z h9 ay kb .byte (4 : Int32) [(.int (nar .byte u0.toInt8.toInt32)), (.int (nar .byte u1.toInt8.toInt32)), (.int (0 : Int32)), (.int (0 : Int32))] (.int (0 : Int32)) := Arv.set Ar9 qc9 S9 M9 H9 G9 (fits_nar_byte _) W9 1 rfl (Nat.le_of_ble_eq_true rfl)
  refine own_go (st' := T9.setTop (mkF m 32 #[oR ax, oi 1, oR ay, oi 1, oi 4, oi 1, oi u1] [])) (st9) ?_
  refine own_go (st' := T9.setTop (mkF m 35 #[oR ax, oi 2, oR ay, oi 1, oi 4, oi 1, oi u1] [])) (fun _ k => XS.iinc X9.here hx rfl (hb hby d7_32) rfl (l' := #[oR ax, oi 2, oR ay, oi 1, oi 4, oi 1, oi u1]) (by rw [show ((1 : Int32) + Int32.ofInt 1) = (2 : Int32) by decide]; rfl) k) ?_
  refine own_go (st' := T9.setTop (mkF m 38 #[oR ax, oi 2, oR ay, oi 2, oi 4, oi 1, oi u1] [])) (fun _ k => XS.iinc X9.here hx rfl (hb hby d7_35) rfl (l' := #[oR ax, oi 2, oR ay, oi 2, oi 4, oi 1, oi u1]) (by rw [show ((1 : Int32) + Int32.ofInt 1) = (2 : Int32) by decide]; rfl) k) ?_
  refine own_go (st' := T9.setTop (mkF m 41 #[oR ax, oi 2, oR ay, oi 2, oi 4, oi 2, oi u1] [])) (fun _ k => XS.iinc X9.here hx rfl (hb hby d7_38) rfl (l' := #[oR ax, oi 2, oR ay, oi 2, oi 4, oi 2, oi u1]) (by rw [show ((1 : Int32) + Int32.ofInt 1) = (2 : Int32) by decide]; rfl) k) ?_
  refine own_go (st' := T9.setTop (mkF m 3 #[oR ax, oi 2, oR ay, oi 2, oi 4, oi 2, oi u1] [])) (fun _ k => XS.goto X9.here hx rfl (pc0 := 41) (pc' := 3) rfl (hb hby d7_41) (by decide) (by decide) k) ?_
  refine own_go (st' := T9.setTop (mkF m 5 #[oR ax, oi 2, oR ay, oi 2, oi 4, oi 2, oi u1] [(.int (2 : Int32))])) (fun _ k => XS.iload X9.here hx rfl (hb hby d7_3) rfl k) ?_
  refine own_go (st' := T9.setTop (mkF m 7 #[oR ax, oi 2, oR ay, oi 2, oi 4, oi 2, oi u1] [(.int (4 : Int32)), (.int (2 : Int32))])) (fun _ k => XS.iload X9.here hx rfl (hb hby d7_5) rfl k) ?_
  have hc10 : (2 : Int32) < (4 : Int32) := by decide
  refine own_go (st' := T9.setTop (mkF m 10 #[oR ax, oi 2, oR ay, oi 2, oi 4, oi 2, oi u1] [])) (fun _ k => XS.icmpNo X9.here hx rfl (hb hby d7_7) rfl (tlt hc10).2.1 k) ?_
  refine own_go (st' := T9.setTop (mkF m 11 #[oR ax, oi 2, oR ay, oi 2, oi 4, oi 2, oi u1] [(.ref ax)])) (fun _ k => XS.aloadN X9.here hx rfl (hb hby d7_10) rfl rfl k) ?_
  refine own_go (st' := T9.setTop (mkF m 12 #[oR ax, oi 2, oR ay, oi 2, oi 4, oi 2, oi u1] [(.int (2 : Int32)), (.ref ax)])) (fun _ k => XS.iloadN X9.here hx rfl (hb hby d7_11) rfl k) ?_
  have c11 : Arv Z h9 ax ka .char (4 : Int32) [(.int u0), (.int u1), (.int u2), (.int u3)] (.int (0 : Int32)) := (c6.other W9 (own_ne (by omega)))
  obtain ⟨cl12, Ar12, -, S12, M12, H12, -⟩ := id c11
  have hin12 : ¬ ((2 : Int32) < 0 ∨ cl12.slots.size ≤ ((2 : Int32)).toNatClampNeg) := (inb_of S12 ⟨by decide, by decide⟩)
  have hat12 : cl12.slots[((2 : Int32)).toNatClampNeg]? = some (.int u2) := (H12.at hin12 rfl)
  refine own_go (st' := T9.setTop (mkF m 13 #[oR ax, oi 2, oR ay, oi 2, oi 4, oi 2, oi u1] [(.int u2)])) (X9.caload hx (j := (2 : Int32)) (v := (.int u2)) (by rw [e9]; exact Ar12.1) (State.isArrayOf_alike hZ.alike Ar12.2.1) Ar12.2.2 hin12 hat12 (g := (mkF m 12 #[oR ax, oi 2, oR ay, oi 2, oi 4, oi 2, oi u1] [(.int (2 : Int32)), (.ref ax)])) rfl rfl (hb hby d7_12)) ?_
  refine own_go (st' := T9.setTop (mkF m 15 #[oR ax, oi 2, oR ay, oi 2, oi 4, oi 2, oi u2] [])) (fun _ k => XS.istore X9.here hx rfl (hb hby d7_13) rfl (l' := #[oR ax, oi 2, oR ay, oi 2, oi 4, oi 2, oi u2]) rfl k) ?_
  refine own_go (st' := T9.setTop (mkF m 17 #[oR ax, oi 2, oR ay, oi 2, oi 4, oi 2, oi u2] [(.int u2)])) (fun _ k => XS.iload X9.here hx rfl (hb hby d7_15) rfl k) ?_
  refine own_go (st' := T9.setTop (mkF m 20 #[oR ax, oi 2, oR ay, oi 2, oi 4, oi 2, oi u2] [(.int (255 : Int32)), (.int u2)])) (fun _ k => XS.sipush X9.here hx rfl (hb hby d7_17) k) ?_
  have hc13 : ¬ ((255 : Int32) < u2) := (own_lat_le hl_u2)
  refine own_go (st' := T9.setTop (mkF m 26 #[oR ax, oi 2, oR ay, oi 2, oi 4, oi 2, oi u2] [])) (fun _ k => XS.icmpYes X9.here hx rfl (pc0 := 20) (pc' := 26) rfl (hb hby d7_20) rfl (flt hc13).2.2.2 (by decide) (by decide) k) ?_
  refine own_go (st' := T9.setTop (mkF m 27 #[oR ax, oi 2, oR ay, oi 2, oi 4, oi 2, oi u2] [(.ref ay)])) (fun _ k => XS.aloadN X9.here hx rfl (hb hby d7_26) rfl rfl k) ?_
  refine own_go (st' := T9.setTop (mkF m 28 #[oR ax, oi 2, oR ay, oi 2, oi 4, oi 2, oi u2] [(.int (2 : Int32)), (.ref ay)])) (fun _ k => XS.iloadN X9.here hx rfl (hb hby d7_27) rfl k) ?_
  refine own_go (st' := T9.setTop (mkF m 30 #[oR ax, oi 2, oR ay, oi 2, oi 4, oi 2, oi u2] [(.int u2), (.int (2 : Int32)), (.ref ay)])) (fun _ k => XS.iload X9.here hx rfl (hb hby d7_28) rfl k) ?_
  refine own_go (st' := T9.setTop (mkF m 31 #[oR ax, oi 2, oR ay, oi 2, oi 4, oi 2, oi u2] [(.int u2.toInt8.toInt32), (.int (2 : Int32)), (.ref ay)])) (fun _ k => XS.i2b X9.here hx rfl (hb hby d7_30) rfl k) ?_
  obtain ⟨cl14, Ar14, qc14, S14, M14, H14, G14⟩ := id v9
  have hin14 : ¬ ((2 : Int32) < 0 ∨ cl14.slots.size ≤ ((2 : Int32)).toNatClampNeg) := (inb_of S14 ⟨by decide, by decide⟩)
  obtain ⟨T14, h14, X14, e14, W14, st14⟩ := stB X9 hx hZ e9 Ar14 (j := (2 : Int32)) hin14 (g := (mkF m 31 #[oR ax, oi 2, oR ay, oi 2, oi 4, oi 2, oi u2] [(.int u2.toInt8.toInt32), (.int (2 : Int32)), (.ref ay)])) rfl rfl (hb hby d7_31)
  have sz14 : h14.size = h9.size := W14.size
  have N14 := Fr.snoc X14 N9 (by omega)
  have v14 : Arv Z h14 ay kb .byte (4 : Int32) [(.int (nar .byte u0.toInt8.toInt32)), (.int (nar .byte u1.toInt8.toInt32)), (.int (nar .byte u2.toInt8.toInt32)), (.int (0 : Int32))] (.int (0 : Int32)) := Arv.set Ar14 qc14 S14 M14 H14 G14 (fits_nar_byte _) W14 2 rfl (Nat.le_of_ble_eq_true rfl)
  refine own_go (st' := T14.setTop (mkF m 32 #[oR ax, oi 2, oR ay, oi 2, oi 4, oi 2, oi u2] [])) (st14) ?_
  refine own_go (st' := T14.setTop (mkF m 35 #[oR ax, oi 3, oR ay, oi 2, oi 4, oi 2, oi u2] [])) (fun _ k => XS.iinc X14.here hx rfl (hb hby d7_32) rfl (l' := #[oR ax, oi 3, oR ay, oi 2, oi 4, oi 2, oi u2]) (by rw [show ((2 : Int32) + Int32.ofInt 1) = (3 : Int32) by decide]; rfl) k) ?_
  refine own_go (st' := T14.setTop (mkF m 38 #[oR ax, oi 3, oR ay, oi 3, oi 4, oi 2, oi u2] [])) (fun _ k => XS.iinc X14.here hx rfl (hb hby d7_35) rfl (l' := #[oR ax, oi 3, oR ay, oi 3, oi 4, oi 2, oi u2]) (by rw [show ((2 : Int32) + Int32.ofInt 1) = (3 : Int32) by decide]; rfl) k) ?_
  refine own_go (st' := T14.setTop (mkF m 41 #[oR ax, oi 3, oR ay, oi 3, oi 4, oi 3, oi u2] [])) (fun _ k => XS.iinc X14.here hx rfl (hb hby d7_38) rfl (l' := #[oR ax, oi 3, oR ay, oi 3, oi 4, oi 3, oi u2]) (by rw [show ((2 : Int32) + Int32.ofInt 1) = (3 : Int32) by decide]; rfl) k) ?_
  refine own_go (st' := T14.setTop (mkF m 3 #[oR ax, oi 3, oR ay, oi 3, oi 4, oi 3, oi u2] [])) (fun _ k => XS.goto X14.here hx rfl (pc0 := 41) (pc' := 3) rfl (hb hby d7_41) (by decide) (by decide) k) ?_
  refine own_go (st' := T14.setTop (mkF m 5 #[oR ax, oi 3, oR ay, oi 3, oi 4, oi 3, oi u2] [(.int (3 : Int32))])) (fun _ k => XS.iload X14.here hx rfl (hb hby d7_3) rfl k) ?_
  refine own_go (st' := T14.setTop (mkF m 7 #[oR ax, oi 3, oR ay, oi 3, oi 4, oi 3, oi u2] [(.int (4 : Int32)), (.int (3 : Int32))])) (fun _ k => XS.iload X14.here hx rfl (hb hby d7_5) rfl k) ?_
  have hc15 : (3 : Int32) < (4 : Int32) := by decide
  refine own_go (st' := T14.setTop (mkF m 10 #[oR ax, oi 3, oR ay, oi 3, oi 4, oi 3, oi u2] [])) (fun _ k => XS.icmpNo X14.here hx rfl (hb hby d7_7) rfl (tlt hc15).2.1 k) ?_
  refine own_go (st' := T14.setTop (mkF m 11 #[oR ax, oi 3, oR ay, oi 3, oi 4, oi 3, oi u2] [(.ref ax)])) (fun _ k => XS.aloadN X14.here hx rfl (hb hby d7_10) rfl rfl k) ?_
  refine own_go (st' := T14.setTop (mkF m 12 #[oR ax, oi 3, oR ay, oi 3, oi 4, oi 3, oi u2] [(.int (3 : Int32)), (.ref ax)])) (fun _ k => XS.iloadN X14.here hx rfl (hb hby d7_11) rfl k) ?_
  have c16 : Arv Z h14 ax ka .char (4 : Int32) [(.int u0), (.int u1), (.int u2), (.int u3)] (.int (0 : Int32)) := (c11.other W14 (own_ne (by omega)))
  obtain ⟨cl17, Ar17, -, S17, M17, H17, -⟩ := id c16
  have hin17 : ¬ ((3 : Int32) < 0 ∨ cl17.slots.size ≤ ((3 : Int32)).toNatClampNeg) := (inb_of S17 ⟨by decide, by decide⟩)
  have hat17 : cl17.slots[((3 : Int32)).toNatClampNeg]? = some (.int u3) := (H17.at hin17 rfl)
  refine own_go (st' := T14.setTop (mkF m 13 #[oR ax, oi 3, oR ay, oi 3, oi 4, oi 3, oi u2] [(.int u3)])) (X14.caload hx (j := (3 : Int32)) (v := (.int u3)) (by rw [e14]; exact Ar17.1) (State.isArrayOf_alike hZ.alike Ar17.2.1) Ar17.2.2 hin17 hat17 (g := (mkF m 12 #[oR ax, oi 3, oR ay, oi 3, oi 4, oi 3, oi u2] [(.int (3 : Int32)), (.ref ax)])) rfl rfl (hb hby d7_12)) ?_
  refine own_go (st' := T14.setTop (mkF m 15 #[oR ax, oi 3, oR ay, oi 3, oi 4, oi 3, oi u3] [])) (fun _ k => XS.istore X14.here hx rfl (hb hby d7_13) rfl (l' := #[oR ax, oi 3, oR ay, oi 3, oi 4, oi 3, oi u3]) rfl k) ?_
  refine own_go (st' := T14.setTop (mkF m 17 #[oR ax, oi 3, oR ay, oi 3, oi 4, oi 3, oi u3] [(.int u3)])) (fun _ k => XS.iload X14.here hx rfl (hb hby d7_15) rfl k) ?_
  refine own_go (st' := T14.setTop (mkF m 20 #[oR ax, oi 3, oR ay, oi 3, oi 4, oi 3, oi u3] [(.int (255 : Int32)), (.int u3)])) (fun _ k => XS.sipush X14.here hx rfl (hb hby d7_17) k) ?_
  have hc18 : ¬ ((255 : Int32) < u3) := (own_lat_le hl_u3)
  refine own_go (st' := T14.setTop (mkF m 26 #[oR ax, oi 3, oR ay, oi 3, oi 4, oi 3, oi u3] [])) (fun _ k => XS.icmpYes X14.here hx rfl (pc0 := 20) (pc' := 26) rfl (hb hby d7_20) rfl (flt hc18).2.2.2 (by decide) (by decide) k) ?_
  refine own_go (st' := T14.setTop (mkF m 27 #[oR ax, oi 3, oR ay, oi 3, oi 4, oi 3, oi u3] [(.ref ay)])) (fun _ k => XS.aloadN X14.here hx rfl (hb hby d7_26) rfl rfl k) ?_
  refine own_go (st' := T14.setTop (mkF m 28 #[oR ax, oi 3, oR ay, oi 3, oi 4, oi 3, oi u3] [(.int (3 : Int32)), (.ref ay)])) (fun _ k => XS.iloadN X14.here hx rfl (hb hby d7_27) rfl k) ?_
  refine own_go (st' := T14.setTop (mkF m 30 #[oR ax, oi 3, oR ay, oi 3, oi 4, oi 3, oi u3] [(.int u3), (.int (3 : Int32)), (.ref ay)])) (fun _ k => XS.iload X14.here hx rfl (hb hby d7_28) rfl k) ?_
  refine own_go (st' := T14.setTop (mkF m 31 #[oR ax, oi 3, oR ay, oi 3, oi 4, oi 3, oi u3] [(.int u3.toInt8.toInt32), (.int (3 : Int32)), (.ref ay)])) (fun _ k => XS.i2b X14.here hx rfl (hb hby d7_30) rfl k) ?_
  obtain ⟨cl19, Ar19, qc19, S19, M19, H19, G19⟩ := id v14
  have hin19 : ¬ ((3 : Int32) < 0 ∨ cl19.slots.size ≤ ((3 : Int32)).toNatClampNeg) := (inb_of S19 ⟨by decide, by decide⟩)
  obtain ⟨T19, h19, X19, e19, W19, st19⟩ := stB X14 hx hZ e14 Ar19 (j := (3 : Int32)) hin19 (g := (mkF m 31 #[oR ax, oi 3, oR ay, oi 3, oi 4, oi 3, oi u3] [(.int u3.toInt8.toInt32), (.int (3 : Int32)), (.ref ay)])) rfl rfl (hb hby d7_31)
  have sz19 : h19.size = h14.size := W19.size
  have N19 := Fr.snoc X19 N14 (by omega)
  have v19 : Arv Z h19 ay kb .byte (4 : Int32) [(.int (nar .byte u0.toInt8.toInt32)), (.int (nar .byte u1.toInt8.toInt32)), (.int (nar .byte u2.toInt8.toInt32)), (.int (nar .byte u3.toInt8.toInt32))] (.int (0 : Int32)) := Arv.set Ar19 qc19 S19 M19 H19 G19 (fits_nar_byte _) W19 3 rfl (Nat.le_of_ble_eq_true rfl)
  refine own_go (st' := T19.setTop (mkF m 32 #[oR ax, oi 3, oR ay, oi 3, oi 4, oi 3, oi u3] [])) (st19) ?_
  refine own_go (st' := T19.setTop (mkF m 35 #[oR ax, oi 4, oR ay, oi 3, oi 4, oi 3, oi u3] [])) (fun _ k => XS.iinc X19.here hx rfl (hb hby d7_32) rfl (l' := #[oR ax, oi 4, oR ay, oi 3, oi 4, oi 3, oi u3]) (by rw [show ((3 : Int32) + Int32.ofInt 1) = (4 : Int32) by decide]; rfl) k) ?_
  refine own_go (st' := T19.setTop (mkF m 38 #[oR ax, oi 4, oR ay, oi 4, oi 4, oi 3, oi u3] [])) (fun _ k => XS.iinc X19.here hx rfl (hb hby d7_35) rfl (l' := #[oR ax, oi 4, oR ay, oi 4, oi 4, oi 3, oi u3]) (by rw [show ((3 : Int32) + Int32.ofInt 1) = (4 : Int32) by decide]; rfl) k) ?_
  refine own_go (st' := T19.setTop (mkF m 41 #[oR ax, oi 4, oR ay, oi 4, oi 4, oi 4, oi u3] [])) (fun _ k => XS.iinc X19.here hx rfl (hb hby d7_38) rfl (l' := #[oR ax, oi 4, oR ay, oi 4, oi 4, oi 4, oi u3]) (by rw [show ((3 : Int32) + Int32.ofInt 1) = (4 : Int32) by decide]; rfl) k) ?_
  refine own_go (st' := T19.setTop (mkF m 3 #[oR ax, oi 4, oR ay, oi 4, oi 4, oi 4, oi u3] [])) (fun _ k => XS.goto X19.here hx rfl (pc0 := 41) (pc' := 3) rfl (hb hby d7_41) (by decide) (by decide) k) ?_
  refine own_go (st' := T19.setTop (mkF m 5 #[oR ax, oi 4, oR ay, oi 4, oi 4, oi 4, oi u3] [(.int (4 : Int32))])) (fun _ k => XS.iload X19.here hx rfl (hb hby d7_3) rfl k) ?_
  refine own_go (st' := T19.setTop (mkF m 7 #[oR ax, oi 4, oR ay, oi 4, oi 4, oi 4, oi u3] [(.int (4 : Int32)), (.int (4 : Int32))])) (fun _ k => XS.iload X19.here hx rfl (hb hby d7_5) rfl k) ?_
  have hc20 : ¬ ((4 : Int32) < (4 : Int32)) := by decide
  refine own_go (st' := T19.setTop (mkF m 44 #[oR ax, oi 4, oR ay, oi 4, oi 4, oi 4, oi u3] [])) (fun _ k => XS.icmpYes X19.here hx rfl (pc0 := 7) (pc' := 44) rfl (hb hby d7_7) rfl (flt hc20).2.1 (by decide) (by decide) k) ?_
  refine own_go (st' := T19.setTop (mkF m 46 #[oR ax, oi 4, oR ay, oi 4, oi 4, oi 4, oi u3] [(.int (4 : Int32))])) (fun _ k => XS.iload X19.here hx rfl (hb hby d7_44) rfl k) ?_
  obtain ⟨fs, hr, hrun, hended, hW, hsame⟩ := X19.leave (v := some (.int (4 : Int32))) (fun h => by rw [Bd.returns] at h; cases h)
  refine ⟨_, _, ?_, hP _ _ hrun hended ⟨_, _, rfl, ?_, ⟨_, rfl⟩, hW, hsame.mono (by decide) (by decide)⟩⟩
  · exact retOut X19 hx Bd.returns rfl (Or.inl ⟨rfl, Or.inl rfl, _, rfl⟩) (hb hby d7_46) hr
  · show Qrcp_4 Z ax ka ay kb u0 u1 u2 u3 h0 n0 _ T19.heap _
    rw [e19]
    exact ⟨rfl, N19, (((((Keep.refl h0 [ay]).wr W4 (Or.inl (List.mem_of_getElem? (i := 0) rfl))).wr W9 (Or.inl (List.mem_of_getElem? (i := 0) rfl))).wr W14 (Or.inl (List.mem_of_getElem? (i := 0) rfl))).wr W19 (Or.inl (List.mem_of_getElem? (i := 0) rfl))), v19⟩
theorem ef_rcq_4 (m : MethodId) (x0 : Addr) (x1 : Int32) (x2 : Int32) : entryFrame m #[(.ref x0), (.int x1), (.int x2)] 6 = mkF m 0 #[.val (.ref x0), .val (.int x1), .val (.int x2), .unset, .unset, .unset] [] := by first | (simp [entryFrame, mkF, argsToLocals, Value.category]; done) | rfl
def Qrcq_4 (Z : State) (ax : Addr) (ka : ClassId) (u0 : Int32) (u1 : Int32) (u2 : Int32) (u3 : Int32) (h0 : Heap) (n0 : Nat) (v : Option Value) (h : Heap) (L : List Loc) : Prop := ∃ (r : Addr) (kr : ClassId), (v = some (.ref r)) ∧ (Fr n0 L) ∧ (Keep h0 h []) ∧ (Arv Z h r kr .byte (4 : Int32) [(.int (own_by u0)), (.int (own_by u1)), (.int (own_by u2)), (.int (own_by u3))] (.int (0 : Int32))) ∧ (h0.size ≤ r)
set_option maxRecDepth 65536 in
set_option maxHeartbeats 40000000 in
theorem rcq_4 (l : Launch) (Z : State) (a0 : Array Value) (hw : ∀ d ∈ tables_1, d.before a0 Z = true) (ws : List Jvm.Cond) (ax : Addr) (ka : ClassId) (u0 : Int32) (u1 : Int32) (u2 : Int32) (u3 : Int32) (h0 : Heap) (n0 : Nat) (Z0 : n0 ≤ h0.size) (pr1 : Arv Z h0 ax ka .char (4 : Int32) [(.int u0), (.int u1), (.int u2), (.int u3)] (.int (0 : Int32))) (hl_u0 : own_lat u0) (hl_u1 : own_lat u1) (hl_u2 : own_lat u2) (hl_u3 : own_lat u3) :
    MetFree l oM7 (head1 (Jvm.Cond.code oM7 jdk_52_method_16_code 6 (some (.array .byte)) :: ws) ({ frames := 1, cells := 1, slots := 4, locals := 18 } : Room)) (fun a U => a = #[(.ref ax), (.int (0 : Int32)), (.int (4 : Int32))] ∧ Z.Warmed39 U.vm ∧ U.heap = h0) (fun _ _ _ _ _ => True) (fun _ U o U' => ∃ v L, o = .returned v ∧ Qrcq_4 Z ax ka u0 u1 u2 u3 h0 n0 v U'.heap L ∧ FrameEnd U o U' L ({ frames := 1, cells := 1, slots := 4, locals := 18 } : Room).cells ({ frames := 1, cells := 1, slots := 4, locals := 18 } : Room).slots) := by
  refine MetFree.of_bodySF (plainFor_of_name pn_6) hisR ?_
  intro p e s m args below meth c s₁ Bd hml0 hP0 hK
  obtain ⟨rfl, hZ, hh⟩ := hP0
  have hx := Bd.exec
  have hby := Bd.bytes
  have hml : c.maxLocals = 6 := hml0
  have hown : s.vm.findClass oS5 = some m.cls := findClass_of_methodNamed Bd.named
  have hnm := (name_of_methodNamed Bd.named Bd.method).1
  have X0 : Stand p l e ({ frames := 1, cells := 1, slots := 4, locals := 18 } : Room) s m #[(.ref ax), (.int (0 : Int32)), (.int (4 : Int32))] below meth c s₁ [] 0 0 := Stand.of_body Bd
  have e0 : s₁.heap = h0 := by rw [← hh, Bd.state]; rfl
  have N0 := Fr.nil n0
  suffices own_H : ∀ (P : State → Outcome → Prop), (∀ U o, U.status = .running → Ended U below o → (∃ v L, o = .returned v ∧ Qrcq_4 Z ax ka u0 u1 u2 u3 h0 n0 v U.heap L ∧ FrameEnd s o U L ({ frames := 1, cells := 1, slots := 4, locals := 18 } : Room).cells ({ frames := 1, cells := 1, slots := 4, locals := 18 } : Room).slots) → P U o) → own_Go p.tables e below P (s₁.setTop (mkF m 0 #[oR ax, oi 0, oi 4, .unset, .unset, .unset] [])) from own_go (fun _ k => castTop (ef_rcq_4 m ax (0 : Int32) (4 : Int32)) k) (own_H _ (fun U o h1 h2 h3 => ⟨h1, h2, h3⟩))
  intro P hP
  have lt_ax : @LT.lt Nat _ ax h0.size := pr1.lt
  refine own_go (st' := s₁.setTop (mkF m 1 #[oR ax, oi 0, oi 4, .unset, .unset, .unset] [(.int (4 : Int32))])) (fun _ k => XS.iloadN X0.here hx rfl (hb hby d6_0) rfl k) ?_
  obtain ⟨T1, h1, k1, X1, e1, E1, A1, st1⟩ := newP X0 hx hZ (own_hw hw 26) e0 (g := (mkF m 1 #[oR ax, oi 0, oi 4, .unset, .unset, .unset] [(.int (4 : Int32))])) rfl (hb hby d6_1) rfl (by decide) (cap := 4) (by decide) (by decide) (by decide) (by decide)
  obtain ⟨b1, g1⟩ : ∃ z, z = h0.size := ⟨_, rfl⟩
  rw [← g1] at A1 st1
  have sz1 : h0.size ≤ h1.size := E1.1
  have lt1 : @LT.lt Nat _ b1 h1.size := A1.lt
  have v1 : Arv Z h1 b1 k1 .byte (4 : Int32) [(.int (0 : Int32)), (.int (0 : Int32)), (.int (0 : Int32)), (.int (0 : Int32))] (.int (0 : Int32)) := (Arv.new A1 (by decide)).pad (pad_rep [] (.int (0 : Int32)) 4)
  refine own_go (st' := T1.setTop (mkF m 3 #[oR ax, oi 0, oi 4, .unset, .unset, .unset] [(.ref b1)])) (st1) ?_
  refine own_go (st' := T1.setTop (mkF m 4 #[oR ax, oi 0, oi 4, oR b1, .unset, .unset] [])) (fun _ k => XS.astoreN X1.here hx rfl (hb hby d6_3) rfl rfl (l' := #[oR ax, oi 0, oi 4, oR b1, .unset, .unset]) rfl k) ?_
  refine own_go (st' := T1.setTop (mkF m 5 #[oR ax, oi 0, oi 4, oR b1, .unset, .unset] [(.ref ax)])) (fun _ k => XS.aloadN X1.here hx rfl (hb hby d6_4) rfl rfl k) ?_
  refine own_go (st' := T1.setTop (mkF m 6 #[oR ax, oi 0, oi 4, oR b1, .unset, .unset] [(.int (0 : Int32)), (.ref ax)])) (fun _ k => XS.iloadN X1.here hx rfl (hb hby d6_5) rfl k) ?_
  refine own_go (st' := T1.setTop (mkF m 7 #[oR ax, oi 0, oi 4, oR b1, .unset, .unset] [(.ref b1), (.int (0 : Int32)), (.ref ax)])) (fun _ k => XS.aloadN X1.here hx rfl (hb hby d6_6) rfl rfl k) ?_
  refine own_go (st' := T1.setTop (mkF m 8 #[oR ax, oi 0, oi 4, oR b1, .unset, .unset] [(.int (0 : Int32)), (.ref b1), (.int (0 : Int32)), (.ref ax)])) (fun _ k => XS.iconst X1.here hx rfl (hb hby d6_7) k) ?_
  refine own_go (st' := T1.setTop (mkF m 9 #[oR ax, oi 0, oi 4, oR b1, .unset, .unset] [(.int (4 : Int32)), (.int (0 : Int32)), (.ref b1), (.int (0 : Int32)), (.ref ax)])) (fun _ k => XS.iloadN X1.here hx rfl (hb hby d6_8) rfl k) ?_
  have c3 : Arv Z h1 ax ka .char (4 : Int32) [(.int u0), (.int u1), (.int u2), (.int u3)] (.int (0 : Int32)) := (pr1.ext E1)
  obtain ⟨_, _, ⟨T2, LC2, kC2, nC2⟩, -, X2, ⟨Lc2, hQ2, lq2, yq2, zq2⟩, st2⟩ := Jvm.LawKit.callS X1 hx (y := oM6) hown (mvT hZ (own_hw hw 27)) (mvT hZ (own_hw hw 28)) (mvT hZ (own_hw hw 24)) (mvT hZ (own_hw hw 29)) (by decide) (backOf (W := 0) (rcp_4 l Z a0 hw [] ax ka b1 k1 u0 u1 u2 u3 h1 n0 (by omega) c3 v1 (by omega) (own_ne (by omega)) hl_u0 hl_u1 hl_u2 hl_u3) hZ (own_hw hw 29) (own_hw hw 24) (by decide) (by decide)) (g := (mkF m 9 #[oR ax, oi 0, oi 4, oR b1, .unset, .unset] [(.int (4 : Int32)), (.int (0 : Int32)), (.ref b1), (.int (0 : Int32)), (.ref ax)])) rfl (by rw [hml]; rfl) (argsL := [(.ref ax), (.int (0 : Int32)), (.ref b1), (.int (0 : Int32)), (.int (4 : Int32))]) (rest := []) (lenOf pd_0 rfl) rfl (by show 2 * 0 + _ ≤ _; exact Nat.le_of_eq rfl) (hb hby d6_9) (fun _ _ => ⟨rfl, e1, (by decide : 1 + 0 ≤ _), (by decide : 4 + 0 ≤ _)⟩)
  dsimp only [Pt.U, Pt.locs, Pt.cells, Pt.slots] at X2 lq2 yq2 zq2 st2 hQ2
  subst lq2 yq2 zq2
  obtain ⟨h2, e2⟩ : ∃ z, T2.heap = z := ⟨_, rfl⟩
  rw [e2] at hQ2
  obtain ⟨rfl, Nq2, K2, g2_0⟩ := hQ2
  have sz2 : h1.size ≤ h2.size := K2.1
  have N2 := Fr.app N0 Nq2
  have lt2_1 : @LT.lt Nat _ b1 h2.size := g2_0.lt
  refine own_go (st' := T2.setTop (mkF m 12 #[oR ax, oi 0, oi 4, oR b1, .unset, .unset] [(.int (4 : Int32))])) (fun t k => st2 t k) ?_
  refine own_go (st' := T2.setTop (mkF m 14 #[oR ax, oi 0, oi 4, oR b1, oi 4, .unset] [])) (fun _ k => XS.istore X2.here hx rfl (hb hby d6_12) rfl (l' := #[oR ax, oi 0, oi 4, oR b1, oi 4, .unset]) rfl k) ?_
  refine own_go (st' := T2.setTop (mkF m 16 #[oR ax, oi 0, oi 4, oR b1, oi 4, .unset] [(.int (4 : Int32))])) (fun _ k => XS.iload X2.here hx rfl (hb hby d6_14) rfl k) ?_
  refine own_go (st' := T2.setTop (mkF m 17 #[oR ax, oi 0, oi 4, oR b1, oi 4, .unset] [(.int (4 : Int32)), (.int (4 : Int32))])) (fun _ k => XS.iloadN X2.here hx rfl (hb hby d6_16) rfl k) ?_
  have hc4 : (4 : Int32) = (4 : Int32) := by decide
  refine own_go (st' := T2.setTop (mkF m 57 #[oR ax, oi 0, oi 4, oR b1, oi 4, .unset] [])) (fun _ k => XS.icmpYes X2.here hx rfl (pc0 := 17) (pc' := 57) rfl (hb hby d6_17) rfl (teq hc4).1 (by decide) (by decide) k) ?_
  refine own_go (st' := T2.setTop (mkF m 58 #[oR ax, oi 0, oi 4, oR b1, oi 4, .unset] [(.ref b1)])) (fun _ k => XS.aloadN X2.here hx rfl (hb hby d6_57) rfl rfl k) ?_
  obtain ⟨fs, hr, hrun, hended, hW, hsame⟩ := X2.leave (v := some (.ref b1)) (fun h => by rw [Bd.returns] at h; cases h)
  refine ⟨_, _, ?_, hP _ _ hrun hended ⟨_, _, rfl, ?_, ⟨_, rfl⟩, hW, hsame.mono (by decide) (by decide)⟩⟩
  · exact retOut X2 hx Bd.returns rfl (Or.inr (Or.inr (Or.inr (Or.inr ⟨rfl, rfl, rfl⟩)))) (hb hby d6_58) hr
  · show Qrcq_4 Z ax ka u0 u1 u2 u3 h0 n0 _ T2.heap _
    rw [e2]
    exact ⟨b1, k1, rfl, N2, (((Keep.refl h0 []).ext E1).trans K2 (allS (P := fun x => x ∈ [] ∨ h0.size ≤ x) (Or.inr (by omega)) all0)), g2_0, (by omega)⟩
theorem ef_rcd_4 (m : MethodId) (x0 : Addr) (x1 : Int32) : entryFrame m #[(.ref x0), (.int x1)] 2 = mkF m 0 #[.val (.ref x0), .val (.int x1)] [] := by first | (simp [entryFrame, mkF, argsToLocals, Value.category]; done) | rfl
def Qrcd_4 (Z : State) (ax : Addr) (ka : ClassId) (vs : List Value) (h0 : Heap) (n0 : Nat) (v : Option Value) (h : Heap) (L : List Loc) : Prop := (v = some (.int (0 : Int32))) ∧ (Fr n0 L) ∧ (h = h0)
set_option maxRecDepth 65536 in
set_option maxHeartbeats 40000000 in
theorem rcd_4 (l : Launch) (Z : State) (a0 : Array Value) (hw : ∀ d ∈ tables_1, d.before a0 Z = true) (ws : List Jvm.Cond) (ax : Addr) (ka : ClassId) (vs : List Value) (h0 : Heap) (n0 : Nat) (Z0 : n0 ≤ h0.size) (pr1 : Arv Z h0 ax ka .byte (4 : Int32) vs (.int (0 : Int32))) :
    MetFree l oM8 (head1 (Jvm.Cond.code oM8 jdk_52_method_15_code 2 (some .byte) :: ws) ({ frames := 0, cells := 0, slots := 0, locals := 0 } : Room)) (fun a U => a = #[(.ref ax), (.int (4 : Int32))] ∧ Z.Warmed39 U.vm ∧ U.heap = h0) (fun _ _ _ _ _ => True) (fun _ U o U' => ∃ v L, o = .returned v ∧ Qrcd_4 Z ax ka vs h0 n0 v U'.heap L ∧ FrameEnd U o U' L ({ frames := 0, cells := 0, slots := 0, locals := 0 } : Room).cells ({ frames := 0, cells := 0, slots := 0, locals := 0 } : Room).slots) := by
  refine MetFree.of_bodySF (plainFor_of_name pn_8) hisR ?_
  intro p e s m args below meth c s₁ Bd hml0 hP0 hK
  obtain ⟨rfl, hZ, hh⟩ := hP0
  have hx := Bd.exec
  have hby := Bd.bytes
  have hml : c.maxLocals = 2 := hml0
  have hown : s.vm.findClass oS5 = some m.cls := findClass_of_methodNamed Bd.named
  have hnm := (name_of_methodNamed Bd.named Bd.method).1
  have X0 : Stand p l e ({ frames := 0, cells := 0, slots := 0, locals := 0 } : Room) s m #[(.ref ax), (.int (4 : Int32))] below meth c s₁ [] 0 0 := Stand.of_body Bd
  have e0 : s₁.heap = h0 := by rw [← hh, Bd.state]; rfl
  have N0 := Fr.nil n0
  suffices own_H : ∀ (P : State → Outcome → Prop), (∀ U o, U.status = .running → Ended U below o → (∃ v L, o = .returned v ∧ Qrcd_4 Z ax ka vs h0 n0 v U.heap L ∧ FrameEnd s o U L ({ frames := 0, cells := 0, slots := 0, locals := 0 } : Room).cells ({ frames := 0, cells := 0, slots := 0, locals := 0 } : Room).slots) → P U o) → own_Go p.tables e below P (s₁.setTop (mkF m 0 #[oR ax, oi 4] [])) from own_go (fun _ k => castTop (ef_rcd_4 m ax (4 : Int32)) k) (own_H _ (fun U o h1 h2 h3 => ⟨h1, h2, h3⟩))
  intro P hP
  have lt_ax : @LT.lt Nat _ ax h0.size := pr1.lt
  refine own_go (st' := s₁.setTop (mkF m 1 #[oR ax, oi 4] [(.int (4 : Int32))])) (fun _ k => XS.iloadN X0.here hx rfl (hb hby d8_0) rfl k) ?_
  refine own_go (st' := s₁.setTop (mkF m 2 #[oR ax, oi 4] [(.ref ax), (.int (4 : Int32))])) (fun _ k => XS.aloadN X0.here hx rfl (hb hby d8_1) rfl rfl k) ?_
  obtain ⟨cl1, Ar1, -, S1, M1, -, -⟩ := id pr1
  refine own_go (st' := s₁.setTop (mkF m 3 #[oR ax, oi 4] [(.int (4 : Int32)), (.int (4 : Int32))])) (fun t k => X0.arraylength hx (by rw [e0]; exact Ar1.1) (State.isArrayOf_alike hZ.alike Ar1.2.1) (g := (mkF m 2 #[oR ax, oi 4] [(.ref ax), (.int (4 : Int32))])) rfl rfl (hb hby d8_2) t (by rw [len_of S1 M1]; exact k)) ?_
  refine own_go (st' := s₁.setTop (mkF m 4 #[oR ax, oi 4] [(.int (0 : Int32))])) (fun _ k => XS.isub X0.here hx rfl (hb hby d8_3) rfl (by rw [show ((4 : Int32) - (4 : Int32)) = (0 : Int32) by decide]; exact k)) ?_
  refine own_go (st' := s₁.setTop (mkF m 6 #[oR ax, oi 4] [(.int (31 : Int32)), (.int (0 : Int32))])) (fun _ k => XS.bipush X0.here hx rfl (hb hby d8_4) k) ?_
  refine own_go (st' := s₁.setTop (mkF m 7 #[oR ax, oi 4] [(.int (((0 : Int32).toUInt32 >>> ((31 : Int32) &&& 31).toUInt32).toInt32))])) (fun _ k => XS.iushr X0.here hx rfl (hb hby d8_6) rfl k) ?_
  refine own_go (st' := s₁.setTop (mkF m 8 #[oR ax, oi 4] [(.int (((0 : Int32).toUInt32 >>> ((31 : Int32) &&& 31).toUInt32).toInt32).toInt8.toInt32)])) (fun _ k => XS.i2b X0.here hx rfl (hb hby d8_7) rfl k) ?_
  obtain ⟨fs, hr, hrun, hended, hW, hsame⟩ := X0.leave (v := some (.int (nar .byte (((0 : Int32).toUInt32 >>> ((31 : Int32) &&& 31).toUInt32).toInt32).toInt8.toInt32))) (fun h => by rw [Bd.returns] at h; cases h)
  refine ⟨_, _, ?_, hP _ _ hrun hended ⟨_, _, rfl, ?_, ⟨_, rfl⟩, hW, hsame.mono (by decide) (by decide)⟩⟩
  · exact retN X0 hx (t := .byte) Bd.returns (by simp) (hb hby d8_8) hr
  · show Qrcd_4 Z ax ka vs h0 n0 _ s₁.heap _
    rw [e0]
    exact ⟨(congrArg (fun z => some (Value.int z)) (by decide +kernel)), N0, rfl⟩
theorem ef_rsi_4 (m : MethodId) (x0 : Addr) (x1 : Addr) (x2 : Int32) (x3 : Int32) : entryFrame m #[(.ref x0), (.ref x1), (.int x2), (.int x3), .null] 6 = mkF m 0 #[.val (.ref x0), .val (.ref x1), .val (.int x2), .val (.int x3), .val .null, .unset] [] := by first | (simp [entryFrame, mkF, argsToLocals, Value.category]; done) | rfl
def Qrsi_4 (Z : State) (a1 : Addr) (ax : Addr) (ka : ClassId) (zc : Int32) (u0 : Int32) (u1 : Int32) (u2 : Int32) (u3 : Int32) (h0 : Heap) (n0 : Nat) (v : Option Value) (h : Heap) (L : List Loc) : Prop := ∃ (r : Addr) (kr : ClassId), (v = none) ∧ (Fr n0 L) ∧ (Keep h0 h [a1]) ∧ (Exa Z h a1 "java/lang/String") ∧ (Fld Z h a1 "java/lang/String" "value" "[B" (.ref r)) ∧ (Fld Z h a1 "java/lang/String" "coder" "B" (.int (0 : Int32))) ∧ (Arv Z h r kr .byte (4 : Int32) [(.int (own_by u0)), (.int (own_by u1)), (.int (own_by u2)), (.int (own_by u3))] (.int (0 : Int32))) ∧ (h0.size ≤ r)
set_option maxRecDepth 65536 in
set_option maxHeartbeats 40000000 in
theorem rsi_4 (l : Launch) (Z : State) (a0 : Array Value) (hw : ∀ d ∈ tables_1, d.before a0 Z = true) (ws : List Jvm.Cond) (a1 : Addr) (ax : Addr) (ka : ClassId) (zc : Int32) (u0 : Int32) (u1 : Int32) (u2 : Int32) (u3 : Int32) (h0 : Heap) (n0 : Nat) (Z0 : n0 ≤ h0.size) (pr1 : Exa Z h0 a1 oS0) (pr2 : Fld Z h0 a1 oS0 "value" "[B" .null) (pr3 : Fld Z h0 a1 oS0 "coder" "B" (.int (0 : Int32))) (pr4 : Arv Z h0 ax ka .char (4 : Int32) [(.int u0), (.int u1), (.int u2), (.int u3)] (.int (0 : Int32))) (pr5 : Sta Z h0 oS0 oS3 "Z" (.int zc)) (hzc : ¬ zc = (0 : Int32)) (hl_u0 : own_lat u0) (hl_u1 : own_lat u1) (hl_u2 : own_lat u2) (hl_u3 : own_lat u3) (pr6 : n0 ≤ a1) (pr7 : @Ne Nat a1 ax) :
    MetFree l oM2 (head1 (Jvm.Cond.code oM2 jdk_42_method_149_code 6 none :: ws) ({ frames := 2, cells := 1, slots := 4, locals := 35 } : Room)) (fun a U => a = #[(.ref a1), (.ref ax), (.int (0 : Int32)), (.int (4 : Int32)), .null] ∧ Z.Warmed39 U.vm ∧ U.heap = h0) (fun _ _ _ _ _ => True) (fun _ U o U' => ∃ v L, o = .returned v ∧ Qrsi_4 Z a1 ax ka zc u0 u1 u2 u3 h0 n0 v U'.heap L ∧ FrameEnd U o U' L ({ frames := 2, cells := 1, slots := 4, locals := 35 } : Room).cells ({ frames := 2, cells := 1, slots := 4, locals := 35 } : Room).slots) := by
  refine MetFree.of_bodySF (plainFor_of_name pn_4) hisR ?_
  intro p e s m args below meth c s₁ Bd hml0 hP0 hK
  obtain ⟨rfl, hZ, hh⟩ := hP0
  have hx := Bd.exec
  have hby := Bd.bytes
  have hml : c.maxLocals = 6 := hml0
  have hown : s.vm.findClass oS0 = some m.cls := findClass_of_methodNamed Bd.named
  have hnm := (name_of_methodNamed Bd.named Bd.method).1
  have X0 : Stand p l e ({ frames := 2, cells := 1, slots := 4, locals := 35 } : Room) s m #[(.ref a1), (.ref ax), (.int (0 : Int32)), (.int (4 : Int32)), .null] below meth c s₁ [] 0 0 := Stand.of_body Bd
  have e0 : s₁.heap = h0 := by rw [← hh, Bd.state]; rfl
  have N0 := Fr.nil n0
  suffices own_H : ∀ (P : State → Outcome → Prop), (∀ U o, U.status = .running → Ended U below o → (∃ v L, o = .returned v ∧ Qrsi_4 Z a1 ax ka zc u0 u1 u2 u3 h0 n0 v U.heap L ∧ FrameEnd s o U L ({ frames := 2, cells := 1, slots := 4, locals := 35 } : Room).cells ({ frames := 2, cells := 1, slots := 4, locals := 35 } : Room).slots) → P U o) → own_Go p.tables e below P (s₁.setTop (mkF m 0 #[oR a1, oR ax, oi 0, oi 4, .val .null, .unset] [])) from own_go (fun _ k => castTop (ef_rsi_4 m a1 ax (0 : Int32) (4 : Int32)) k) (own_H _ (fun U o h1 h2 h3 => ⟨h1, h2, h3⟩))
  intro P hP
  have lt_a1 : @LT.lt Nat _ a1 h0.size := pr1.lt
  have lt_ax : @LT.lt Nat _ ax h0.size := pr4.lt
  refine own_go (st' := s₁.setTop (mkF m 1 #[oR a1, oR ax, oi 0, oi 4, .val .null, .unset] [(.ref a1)])) (fun _ k => XS.aloadN X0.here hx rfl (hb hby d4_0) rfl rfl k) ?_
  obtain ⟨T1, X1, e1, st1⟩ := initO X0 hx hZ hown (own_hw hw 18) (own_hw hw 19) (own_hw hw 20) e0 (g := (mkF m 1 #[oR a1, oR ax, oi 0, oi 4, .val .null, .unset] [(.ref a1)])) rfl (by rw [hml]; rfl) rfl (hb hby d4_1) (by decide) (W := 0) (by show 2 * 0 + _ ≤ _; exact Nat.le_of_eq rfl) (by decide)
  refine own_go (st' := T1.setTop (mkF m 4 #[oR a1, oR ax, oi 0, oi 4, .val .null, .unset] [])) (st1) ?_
  refine own_go (st' := T1.setTop (mkF m 5 #[oR a1, oR ax, oi 0, oi 4, .val .null, .unset] [(.int (4 : Int32))])) (fun _ k => XS.iloadN X1.here hx rfl (hb hby d4_4) rfl k) ?_
  have hc2 : ¬ ((4 : Int32) = (0 : Int32)) := by decide
  refine own_go (st' := T1.setTop (mkF m 27 #[oR a1, oR ax, oi 0, oi 4, .val .null, .unset] [])) (fun _ k => XS.ifYes X1.here hx rfl (pc0 := 5) (pc' := 27) rfl (hb hby d4_5) rfl ((if0 _ _).trans (feq hc2).2) (by decide) (by decide) k) ?_
  obtain ⟨T3, X3, e3, st3⟩ := getS2 X1 hx hZ hown (host := "") (Or.inl (own_hw hw 21)) Via.refl e1 pr5 (g := (mkF m 27 #[oR a1, oR ax, oi 0, oi 4, .val .null, .unset] [])) rfl (hb hby d4_27)
  refine own_go (st' := T3.setTop (mkF m 30 #[oR a1, oR ax, oi 0, oi 4, .val .null, .unset] [(.int zc)])) (st3) ?_
  have hc4 : ¬ (zc = (0 : Int32)) := hzc
  refine own_go (st' := T3.setTop (mkF m 33 #[oR a1, oR ax, oi 0, oi 4, .val .null, .unset] [])) (fun _ k => XS.ifNo X3.here hx rfl (hb hby d4_30) rfl ((if0 _ _).trans (feq hc4).1) k) ?_
  refine own_go (st' := T3.setTop (mkF m 34 #[oR a1, oR ax, oi 0, oi 4, .val .null, .unset] [(.ref ax)])) (fun _ k => XS.aloadN X3.here hx rfl (hb hby d4_33) rfl rfl k) ?_
  refine own_go (st' := T3.setTop (mkF m 35 #[oR a1, oR ax, oi 0, oi 4, .val .null, .unset] [(.int (0 : Int32)), (.ref ax)])) (fun _ k => XS.iloadN X3.here hx rfl (hb hby d4_34) rfl k) ?_
  refine own_go (st' := T3.setTop (mkF m 36 #[oR a1, oR ax, oi 0, oi 4, .val .null, .unset] [(.int (4 : Int32)), (.int (0 : Int32)), (.ref ax)])) (fun _ k => XS.iloadN X3.here hx rfl (hb hby d4_35) rfl k) ?_
  obtain ⟨_, _, ⟨T5, LC5, kC5, nC5⟩, -, X5, ⟨Lc5, hQ5, lq5, yq5, zq5⟩, st5⟩ := Jvm.LawKit.callS X3 hx (y := oM7) hown (mvT hZ (own_hw hw 22)) (mvT hZ (own_hw hw 23)) (mvT hZ (own_hw hw 24)) (mvT hZ (own_hw hw 25)) (by decide) (backOf (W := 0) (rcq_4 l Z a0 hw [] ax ka u0 u1 u2 u3 h0 n0 (by omega) pr4 hl_u0 hl_u1 hl_u2 hl_u3) hZ (own_hw hw 25) (own_hw hw 24) (by decide) (by decide)) (g := (mkF m 36 #[oR a1, oR ax, oi 0, oi 4, .val .null, .unset] [(.int (4 : Int32)), (.int (0 : Int32)), (.ref ax)])) rfl (by rw [hml]; rfl) (argsL := [(.ref ax), (.int (0 : Int32)), (.int (4 : Int32))]) (rest := []) (lenOf pd_1 rfl) rfl (by show 2 * 0 + _ ≤ _; exact Nat.le_of_eq rfl) (hb hby d4_36) (fun _ _ => ⟨rfl, e3, (by decide : 0 + 1 ≤ _), (by decide : 0 + 4 ≤ _)⟩)
  dsimp only [Pt.U, Pt.locs, Pt.cells, Pt.slots] at X5 lq5 yq5 zq5 st5 hQ5
  subst lq5 yq5 zq5
  obtain ⟨h5, e5⟩ : ∃ z, T5.heap = z := ⟨_, rfl⟩
  rw [e5] at hQ5
  obtain ⟨r_5, kr_5, rfl, Nq5, K5, g5_0, g5_1⟩ := hQ5
  have sz5 : h0.size ≤ h5.size := K5.1
  have N5 := Fr.app N0 Nq5
  have lt5_1 : @LT.lt Nat _ r_5 h5.size := g5_0.lt
  refine own_go (st' := T5.setTop (mkF m 39 #[oR a1, oR ax, oi 0, oi 4, .val .null, .unset] [(.ref r_5)])) (fun t k => st5 t k) ?_
  refine own_go (st' := T5.setTop (mkF m 41 #[oR a1, oR ax, oi 0, oi 4, .val .null, oR r_5] [])) (fun _ k => XS.astore X5.here hx rfl (hb hby d4_39) rfl rfl (l' := #[oR a1, oR ax, oi 0, oi 4, .val .null, oR r_5]) rfl k) ?_
  refine own_go (st' := T5.setTop (mkF m 42 #[oR a1, oR ax, oi 0, oi 4, .val .null, oR r_5] [(.ref a1)])) (fun _ k => XS.aloadN X5.here hx rfl (hb hby d4_41) rfl rfl k) ?_
  refine own_go (st' := T5.setTop (mkF m 44 #[oR a1, oR ax, oi 0, oi 4, .val .null, oR r_5] [(.ref r_5), (.ref a1)])) (fun _ k => XS.aload X5.here hx rfl (hb hby d4_42) rfl rfl k) ?_
  refine own_go (st' := T5.setTop (mkF m 45 #[oR a1, oR ax, oi 0, oi 4, .val .null, oR r_5] [(.int (4 : Int32)), (.ref r_5), (.ref a1)])) (fun _ k => XS.iloadN X5.here hx rfl (hb hby d4_44) rfl k) ?_
  obtain ⟨_, _, ⟨T6, LC6, kC6, nC6⟩, -, X6, ⟨Lc6, hQ6, lq6, yq6, zq6⟩, st6⟩ := Jvm.LawKit.callS X5 hx (y := oM8) hown (mvT hZ (own_hw hw 30)) (mvT hZ (own_hw hw 31)) (mvT hZ (own_hw hw 24)) (mvT hZ (own_hw hw 32)) (by decide) (backOf (W := 1) (rcd_4 l Z a0 hw [] r_5 kr_5 [(.int (own_by u0)), (.int (own_by u1)), (.int (own_by u2)), (.int (own_by u3))] h5 n0 (by omega) g5_0) hZ (own_hw hw 32) (own_hw hw 24) (by decide) (by decide)) (g := (mkF m 45 #[oR a1, oR ax, oi 0, oi 4, .val .null, oR r_5] [(.int (4 : Int32)), (.ref r_5), (.ref a1)])) rfl (by rw [hml]; rfl) (argsL := [(.ref r_5), (.int (4 : Int32))]) (rest := [(.ref a1)]) (lenOf pd_2 rfl) rfl (by show 2 * 0 + _ ≤ _; exact Nat.le_of_eq rfl) (hb hby d4_45) (fun _ _ => ⟨rfl, e5, (by decide : 1 + 0 ≤ _), (by decide : 4 + 0 ≤ _)⟩)
  dsimp only [Pt.U, Pt.locs, Pt.cells, Pt.slots] at X6 lq6 yq6 zq6 st6 hQ6
  subst lq6 yq6 zq6
  obtain ⟨rfl, Nq6, eq6⟩ := hQ6
  have N6 := Fr.app N5 Nq6
  refine own_go (st' := T6.setTop (mkF m 48 #[oR a1, oR ax, oi 0, oi 4, .val .null, oR r_5] [(.int (0 : Int32)), (.ref a1)])) (fun t k => st6 t k) ?_
  have c7 : Fld Z h5 a1 oS0 "coder" "B" (.int (0 : Int32)) := (pr3.keep K5 nin0)
  have c8 : Exa Z h5 a1 oS0 := (pr1.keep K5)
  obtain ⟨T9, h9, X9, e9, W9, st9⟩ := putFN X6 hx hZ hown (own_hw hw 33) Via.refl eq6 c7 c8 (Or.inr ⟨(own_hw hw 34), rfl, hnm⟩) (own_hw hw 8) (ty := .byte) (v' := (.int (0 : Int32))) (by decide) rfl rfl (g := (mkF m 48 #[oR a1, oR ax, oi 0, oi 4, .val .null, oR r_5] [(.int (0 : Int32)), (.ref a1)])) rfl rfl (hb hby d4_48)
  have sz9 : h9.size = h5.size := W9.size
  have N9 := Fr.snoc X9 N6 (by omega)
  have f9 : Fld Z h9 a1 oS0 "coder" "B" (.int (0 : Int32)) := c7.same W9
  refine own_go (st' := T9.setTop (mkF m 51 #[oR a1, oR ax, oi 0, oi 4, .val .null, oR r_5] [])) (st9) ?_
  refine own_go (st' := T9.setTop (mkF m 52 #[oR a1, oR ax, oi 0, oi 4, .val .null, oR r_5] [(.ref a1)])) (fun _ k => XS.aloadN X9.here hx rfl (hb hby d4_51) rfl rfl k) ?_
  refine own_go (st' := T9.setTop (mkF m 54 #[oR a1, oR ax, oi 0, oi 4, .val .null, oR r_5] [(.ref r_5), (.ref a1)])) (fun _ k => XS.aload X9.here hx rfl (hb hby d4_52) rfl rfl k) ?_
  have c10 : Fld Z h9 a1 oS0 "value" "[B" .null := ((pr2.keep K5 nin0).other W9 (Or.inr (slot_ne (Or.inr (own_hw hw 36)) (Or.inr (own_hw hw 34)) (by decide) (t := (.array .byte)) (t' := .byte) (by decide) (by decide))))
  have c11 : Exa Z h9 a1 oS0 := (c8.wr W9)
  obtain ⟨T12, h12, X12, e12, W12, st12⟩ := putF X9 hx hZ hown (host := "") (Or.inl (own_hw hw 35)) Via.refl e9 c10 c11 (Or.inr ⟨(own_hw hw 36), rfl, hnm⟩) (own_hw hw 8) (ty := (.array .byte)) (by decide) rfl rfl (g := (mkF m 54 #[oR a1, oR ax, oi 0, oi 4, .val .null, oR r_5] [(.ref r_5), (.ref a1)])) rfl rfl (hb hby d4_54)
  have sz12 : h12.size = h9.size := W12.size
  have N12 := Fr.snoc X12 N9 (by omega)
  have f12 : Fld Z h12 a1 oS0 "value" "[B" (.ref r_5) := c10.same W12
  refine own_go (st' := T12.setTop (mkF m 57 #[oR a1, oR ax, oi 0, oi 4, .val .null, oR r_5] [])) (st12) ?_
  obtain ⟨fs, hr, hrun, hended, hW, hsame⟩ := X12.leave (v := none) (fun _ => rfl)
  refine ⟨_, _, ?_, hP _ _ hrun hended ⟨_, _, rfl, ?_, ⟨_, rfl⟩, hW, hsame.mono (by decide) (by decide)⟩⟩
  · exact X12.returnOut hx Bd.returns (hb hby d4_57) hr
  · show Qrsi_4 Z a1 ax ka zc u0 u1 u2 u3 h0 n0 _ T12.heap _
    have c14 : Exa Z h12 a1 oS0 := (c11.wr W12)
    have c15 : Fld Z h12 a1 oS0 "coder" "B" (.int (0 : Int32)) := (f9.other W12 (Or.inr (slot_ne (Or.inr (own_hw hw 34)) (Or.inr (own_hw hw 36)) (by decide) (t := .byte) (t' := (.array .byte)) (by decide) (by decide))))
    have c16 : Arv Z h12 r_5 kr_5 .byte (4 : Int32) [(.int (own_by u0)), (.int (own_by u1)), (.int (own_by u2)), (.int (own_by u3))] (.int (0 : Int32)) := ((g5_0.other W9 (own_ne (by omega))).other W12 (own_ne (by omega)))
    rw [e12]
    exact ⟨r_5, kr_5, rfl, N12, ((((Keep.refl h0 [a1]).trans K5 all0).wr W9 (Or.inl (List.mem_of_getElem? (i := 0) rfl))).wr W12 (Or.inl (List.mem_of_getElem? (i := 0) rfl))), c14, f12, c15, c16, (by omega)⟩
theorem ef_rsc_4 (m : MethodId) (x0 : Addr) (x1 : Addr) : entryFrame m #[(.ref x0), (.ref x1)] 2 = mkF m 0 #[.val (.ref x0), .val (.ref x1)] [] := by first | (simp [entryFrame, mkF, argsToLocals, Value.category]; done) | rfl
def Qrsc_4 (Z : State) (a1 : Addr) (ax : Addr) (ka : ClassId) (zc : Int32) (u0 : Int32) (u1 : Int32) (u2 : Int32) (u3 : Int32) (h0 : Heap) (n0 : Nat) (v : Option Value) (h : Heap) (L : List Loc) : Prop := ∃ (r : Addr) (kr : ClassId), (v = none) ∧ (Fr n0 L) ∧ (Keep h0 h [a1]) ∧ (Exa Z h a1 "java/lang/String") ∧ (Fld Z h a1 "java/lang/String" "value" "[B" (.ref r)) ∧ (Fld Z h a1 "java/lang/String" "coder" "B" (.int (0 : Int32))) ∧ (Arv Z h r kr .byte (4 : Int32) [(.int (own_by u0)), (.int (own_by u1)), (.int (own_by u2)), (.int (own_by u3))] (.int (0 : Int32))) ∧ (h0.size ≤ r)
set_option maxRecDepth 65536 in
set_option maxHeartbeats 40000000 in
theorem rsc_4 (l : Launch) (Z : State) (a0 : Array Value) (hw : ∀ d ∈ tables_1, d.before a0 Z = true) (ws : List Jvm.Cond) (a1 : Addr) (ax : Addr) (ka : ClassId) (zc : Int32) (u0 : Int32) (u1 : Int32) (u2 : Int32) (u3 : Int32) (h0 : Heap) (n0 : Nat) (Z0 : n0 ≤ h0.size) (pr1 : Exa Z h0 a1 oS0) (pr2 : Fld Z h0 a1 oS0 "value" "[B" .null) (pr3 : Fld Z h0 a1 oS0 "coder" "B" (.int (0 : Int32))) (pr4 : Arv Z h0 ax ka .char (4 : Int32) [(.int u0), (.int u1), (.int u2), (.int u3)] (.int (0 : Int32))) (pr5 : Sta Z h0 oS0 oS3 "Z" (.int zc)) (hzc : ¬ zc = (0 : Int32)) (hl_u0 : own_lat u0) (hl_u1 : own_lat u1) (hl_u2 : own_lat u2) (hl_u3 : own_lat u3) (pr6 : n0 ≤ a1) (pr7 : @Ne Nat a1 ax) :
    MetFree l oM3 (head1 (Jvm.Cond.code oM3 jdk_42_method_3_code 2 none :: ws) ({ frames := 3, cells := 1, slots := 4, locals := 52 } : Room)) (fun a U => a = #[(.ref a1), (.ref ax)] ∧ Z.Warmed39 U.vm ∧ U.heap = h0) (fun _ _ _ _ _ => True) (fun _ U o U' => ∃ v L, o = .returned v ∧ Qrsc_4 Z a1 ax ka zc u0 u1 u2 u3 h0 n0 v U'.heap L ∧ FrameEnd U o U' L ({ frames := 3, cells := 1, slots := 4, locals := 52 } : Room).cells ({ frames := 3, cells := 1, slots := 4, locals := 52 } : Room).slots) := by
  refine MetFree.of_bodySF (plainFor_of_name pn_3) hisR ?_
  intro p e s m args below meth c s₁ Bd hml0 hP0 hK
  obtain ⟨rfl, hZ, hh⟩ := hP0
  have hx := Bd.exec
  have hby := Bd.bytes
  have hml : c.maxLocals = 2 := hml0
  have hown : s.vm.findClass oS0 = some m.cls := findClass_of_methodNamed Bd.named
  have hnm := (name_of_methodNamed Bd.named Bd.method).1
  have X0 : Stand p l e ({ frames := 3, cells := 1, slots := 4, locals := 52 } : Room) s m #[(.ref a1), (.ref ax)] below meth c s₁ [] 0 0 := Stand.of_body Bd
  have e0 : s₁.heap = h0 := by rw [← hh, Bd.state]; rfl
  have N0 := Fr.nil n0
  suffices own_H : ∀ (P : State → Outcome → Prop), (∀ U o, U.status = .running → Ended U below o → (∃ v L, o = .returned v ∧ Qrsc_4 Z a1 ax ka zc u0 u1 u2 u3 h0 n0 v U.heap L ∧ FrameEnd s o U L ({ frames := 3, cells := 1, slots := 4, locals := 52 } : Room).cells ({ frames := 3, cells := 1, slots := 4, locals := 52 } : Room).slots) → P U o) → own_Go p.tables e below P (s₁.setTop (mkF m 0 #[oR a1, oR ax] [])) from own_go (fun _ k => castTop (ef_rsc_4 m a1 ax) k) (own_H _ (fun U o h1 h2 h3 => ⟨h1, h2, h3⟩))
  intro P hP
  have lt_a1 : @LT.lt Nat _ a1 h0.size := pr1.lt
  have lt_ax : @LT.lt Nat _ ax h0.size := pr4.lt
  refine own_go (st' := s₁.setTop (mkF m 1 #[oR a1, oR ax] [(.ref a1)])) (fun _ k => XS.aloadN X0.here hx rfl (hb hby d3_0) rfl rfl k) ?_
  refine own_go (st' := s₁.setTop (mkF m 2 #[oR a1, oR ax] [(.ref ax), (.ref a1)])) (fun _ k => XS.aloadN X0.here hx rfl (hb hby d3_1) rfl rfl k) ?_
  refine own_go (st' := s₁.setTop (mkF m 3 #[oR a1, oR ax] [(.int (0 : Int32)), (.ref ax), (.ref a1)])) (fun _ k => XS.iconst X0.here hx rfl (hb hby d3_2) k) ?_
  refine own_go (st' := s₁.setTop (mkF m 4 #[oR a1, oR ax] [(.ref ax), (.int (0 : Int32)), (.ref ax), (.ref a1)])) (fun _ k => XS.aloadN X0.here hx rfl (hb hby d3_3) rfl rfl k) ?_
  obtain ⟨cl1, Ar1, -, S1, M1, -, -⟩ := id pr4
  refine own_go (st' := s₁.setTop (mkF m 5 #[oR a1, oR ax] [(.int (4 : Int32)), (.int (0 : Int32)), (.ref ax), (.ref a1)])) (fun t k => X0.arraylength hx (by rw [e0]; exact Ar1.1) (State.isArrayOf_alike hZ.alike Ar1.2.1) (g := (mkF m 4 #[oR a1, oR ax] [(.ref ax), (.int (0 : Int32)), (.ref ax), (.ref a1)])) rfl rfl (hb hby d3_4) t (by rw [len_of S1 M1]; exact k)) ?_
  refine own_go (st' := s₁.setTop (mkF m 6 #[oR a1, oR ax] [.null, (.int (4 : Int32)), (.int (0 : Int32)), (.ref ax), (.ref a1)])) (fun _ k => XS.aconstNull X0.here hx rfl (hb hby d3_5) k) ?_
  obtain ⟨_, _, ⟨T2, LC2, kC2, nC2⟩, -, X2, ⟨Lc2, hQ2, lq2, yq2, zq2⟩, st2⟩ := X0.specialBack hx (y := oM2) rfl hown (mvT hZ (own_hw hw 14)) (mvT hZ (own_hw hw 15)) (mvT hZ (own_hw hw 17)) (by decide) (backOf (W := 0) (rsi_4 l Z a0 hw [] a1 ax ka zc u0 u1 u2 u3 h0 n0 (by omega) pr1 pr2 pr3 pr4 pr5 (by assumption) hl_u0 hl_u1 hl_u2 hl_u3 (by omega) (own_ne (by omega))) hZ (own_hw hw 17) (own_hw hw 9) (by decide) (by decide)) (g := (mkF m 6 #[oR a1, oR ax] [.null, (.int (4 : Int32)), (.int (0 : Int32)), (.ref ax), (.ref a1)])) rfl (by rw [hml]; rfl) (Steps.refl _) (a := a1) (argsL := [(.ref ax), (.int (0 : Int32)), (.int (4 : Int32)), .null]) (rest := []) (lenOf pd_3 rfl) rfl (by show 2 * 0 + _ ≤ _; exact Nat.le_of_eq rfl) (hb hby d3_6) (fun _ _ => ⟨rfl, e0, (by decide : 0 + 1 ≤ _), (by decide : 0 + 4 ≤ _)⟩)
  dsimp only [Pt.U, Pt.locs, Pt.cells, Pt.slots] at X2 lq2 yq2 zq2 st2 hQ2
  subst lq2 yq2 zq2
  obtain ⟨h2, e2⟩ : ∃ z, T2.heap = z := ⟨_, rfl⟩
  rw [e2] at hQ2
  obtain ⟨r_2, kr_2, rfl, Nq2, K2, g2_0, g2_1, g2_2, g2_3, g2_4⟩ := hQ2
  have sz2 : h0.size ≤ h2.size := K2.1
  have N2 := Fr.app N0 Nq2
  have lt2_1 : @LT.lt Nat _ a1 h2.size := g2_0.lt
  have lt2_2 : @LT.lt Nat _ r_2 h2.size := g2_3.lt
  refine own_go (st' := T2.setTop (mkF m 9 #[oR a1, oR ax] [])) (fun _ k => st2.trans k) ?_
  obtain ⟨fs, hr, hrun, hended, hW, hsame⟩ := X2.leave (v := none) (fun _ => rfl)
  refine ⟨_, _, ?_, hP _ _ hrun hended ⟨_, _, rfl, ?_, ⟨_, rfl⟩, hW, hsame.mono (by decide) (by decide)⟩⟩
  · exact X2.returnOut hx Bd.returns (hb hby d3_9) hr
  · show Qrsc_4 Z a1 ax ka zc u0 u1 u2 u3 h0 n0 _ T2.heap _
    rw [e2]
    exact ⟨r_2, kr_2, rfl, N2, ((Keep.refl h0 [a1]).trans K2 (allS (P := fun x => x ∈ [a1] ∨ h0.size ≤ x) (Or.inl (List.mem_of_getElem? (i := 0) rfl)) all0)), g2_0, g2_1, g2_2, g2_3, (by omega)⟩
theorem own_wS {a0 : Array Value} {Z : State} (hw : ∀ d ∈ tables_1, d.before a0 Z = true) : ∀ a ∈ Bundle.stringAtoms, a.before a0 Z = true := by
  intro a h
  simp only [Bundle.stringAtoms, List.mem_cons, List.not_mem_nil, or_false] at h
  rcases h with rfl | rfl | rfl | rfl | rfl | rfl | rfl
  · exact (own_hw hw 9)
  · exact (own_hw hw 8)
  · exact (own_hw hw 26)
  · exact (own_hw hw 36)
  · exact (own_hw hw 34)
  · exact (own_hw hw 74)
  · exact (own_hw hw 75)
theorem d4_8 : decode jdk_42_method_149_code 8 = .ok (.aload_n 0, 1) := by decide +kernel
theorem d4_9 : decode jdk_42_method_149_code 9 = .ok (.ldc 7, 2) := by decide +kernel
theorem d4_11 : decode jdk_42_method_149_code 11 = .ok (.getfield 9, 3) := by decide +kernel
theorem d4_14 : decode jdk_42_method_149_code 14 = .ok (.putfield 9, 3) := by decide +kernel
theorem d4_17 : decode jdk_42_method_149_code 17 = .ok (.aload_n 0, 1) := by decide +kernel
theorem d4_18 : decode jdk_42_method_149_code 18 = .ok (.ldc 7, 2) := by decide +kernel
theorem d4_20 : decode jdk_42_method_149_code 20 = .ok (.getfield 15, 3) := by decide +kernel
theorem d4_23 : decode jdk_42_method_149_code 23 = .ok (.putfield 15, 3) := by decide +kernel
theorem d4_26 : decode jdk_42_method_149_code 26 = .ok (.return_, 1) := by decide +kernel
theorem ef_rsi_0 (m : MethodId) (x0 : Addr) (x1 : Addr) (x2 : Int32) (x3 : Int32) : entryFrame m #[(.ref x0), (.ref x1), (.int x2), (.int x3), .null] 6 = mkF m 0 #[.val (.ref x0), .val (.ref x1), .val (.int x2), .val (.int x3), .val .null, .unset] [] := by first | (simp [entryFrame, mkF, argsToLocals, Value.category]; done) | rfl
def Qrsi_0 (Z : State) (a1 : Addr) (ax : Addr) (h0 : Heap) (n0 : Nat) (v : Option Value) (h : Heap) (L : List Loc) : Prop := ∃ (r : Addr) (kr : ClassId), (v = none) ∧ (Fr n0 L) ∧ (Keep h0 h [a1]) ∧ (Exa Z h a1 "java/lang/String") ∧ (Fld Z h a1 "java/lang/String" "value" "[B" (.ref r)) ∧ (Fld Z h a1 "java/lang/String" "coder" "B" (.int (0 : Int32))) ∧ (Arv Z h r kr .byte (0 : Int32) [] (.int (0 : Int32)))
set_option maxRecDepth 65536 in
set_option maxHeartbeats 40000000 in
theorem rsi_0 (l : Launch) (Z : State) (a0 : Array Value) (hw : ∀ d ∈ tables_1, d.before a0 Z = true) (ws : List Jvm.Cond) (a1 : Addr) (ax : Addr) (h0 : Heap) (n0 : Nat) (Z0 : n0 ≤ h0.size) (pr1 : Exa Z h0 a1 oS0) (pr2 : Fld Z h0 a1 oS0 "value" "[B" .null) (pr3 : Fld Z h0 a1 oS0 "coder" "B" (.int (0 : Int32))) (pr4 : n0 ≤ a1) :
    MetFree l oM2 (head1 (Jvm.Cond.code oM2 jdk_42_method_149_code 6 none :: ws) ({ frames := 1, cells := 2, slots := 4, locals := 12 } : Room)) (fun a U => a = #[(.ref a1), (.ref ax), (.int (0 : Int32)), (.int (0 : Int32)), .null] ∧ Z.Warmed39 U.vm ∧ U.heap = h0 ∧ CHv Z own_EL U.vm h0) (fun _ _ _ _ _ => True) (fun _ U o U' => ∃ v L, o = .returned v ∧ Qrsi_0 Z a1 ax h0 n0 v U'.heap L ∧ CHr Z own_EL U.vm U.heap U'.vm U'.heap ∧ ReturnedEndW U o U' L ({ frames := 1, cells := 2, slots := 4, locals := 12 } : Room).cells ({ frames := 1, cells := 2, slots := 4, locals := 12 } : Room).slots) := by
  refine MetFree.of_bodySF (plainFor_of_name pn_4) hisR ?_
  intro p e s m args below meth c s₁ Bd hml0 hP0 hK
  obtain ⟨rfl, hZ, hh, hC0⟩ := hP0
  have hx := Bd.exec
  have hby := Bd.bytes
  have hml : c.maxLocals = 6 := hml0
  have hown : s.vm.findClass oS0 = some m.cls := findClass_of_methodNamed Bd.named
  have hnm := (name_of_methodNamed Bd.named Bd.method).1
  have X0 : Stand p l e ({ frames := 1, cells := 2, slots := 4, locals := 12 } : Room) (s.setVm s.vm) m #[(.ref a1), (.ref ax), (.int (0 : Int32)), (.int (0 : Int32)), .null] below meth c s₁ [] 0 0 := Stand.of_body Bd
  have hS0 : s.Since s.vm h0.size := (State.WarmedH.refl s).since _
  have hZ : Z.Warmed39 (s.setVm s.vm).vm := hZ
  have hown : (s.setVm s.vm).vm.findClass oS0 = some m.cls := hown
  have e0 : s₁.heap = h0 := by rw [← hh, Bd.state]; rfl
  have N0 := Fr.nil n0
  suffices own_H : ∀ (P : State → Outcome → Prop), (∀ U o, U.status = .running → Ended U below o → (∃ v L, o = .returned v ∧ Qrsi_0 Z a1 ax h0 n0 v U.heap L ∧ CHr Z own_EL s.vm s.heap U.vm U.heap ∧ ReturnedEndW s o U L ({ frames := 1, cells := 2, slots := 4, locals := 12 } : Room).cells ({ frames := 1, cells := 2, slots := 4, locals := 12 } : Room).slots) → P U o) → own_Go p.tables e below P (s₁.setTop (mkF m 0 #[oR a1, oR ax, oi 0, oi 0, .val .null, .unset] [])) from own_go (fun _ k => castTop (ef_rsi_0 m a1 ax (0 : Int32) (0 : Int32)) k) (own_H _ (fun U o h1 h2 h3 => ⟨h1, h2, h3⟩))
  intro P hP
  have hEL : EW Z a0 own_EL := own_ew hw
  have A0 : CHr Z own_EL s.vm h0 s.vm h0 := CHr.refl hC0
  have sf_a1 : Safe Z own_EL s.vm h0 a1 := own_safe_null hZ.alike pr1 pr2
  have lt_a1 : @LT.lt Nat _ a1 h0.size := pr1.lt
  refine own_go (st' := s₁.setTop (mkF m 1 #[oR a1, oR ax, oi 0, oi 0, .val .null, .unset] [(.ref a1)])) (fun _ k => XS.aloadN X0.here hx rfl (hb hby d4_0) rfl rfl k) ?_
  obtain ⟨T1, X1, e1, st1⟩ := initO X0 hx hZ hown (own_hw hw 18) (own_hw hw 19) (own_hw hw 20) e0 (g := (mkF m 1 #[oR a1, oR ax, oi 0, oi 0, .val .null, .unset] [(.ref a1)])) rfl (by rw [hml]; rfl) rfl (hb hby d4_1) (by decide) (W := 0) (by show 2 * 0 + _ ≤ _; exact Nat.le_of_eq rfl) (by decide)
  refine own_go (st' := T1.setTop (mkF m 4 #[oR a1, oR ax, oi 0, oi 0, .val .null, .unset] [])) (st1) ?_
  refine own_go (st' := T1.setTop (mkF m 5 #[oR a1, oR ax, oi 0, oi 0, .val .null, .unset] [(.int (0 : Int32))])) (fun _ k => XS.iloadN X1.here hx rfl (hb hby d4_4) rfl k) ?_
  have hc2 : (0 : Int32) = (0 : Int32) := by decide
  refine own_go (st' := T1.setTop (mkF m 8 #[oR a1, oR ax, oi 0, oi 0, .val .null, .unset] [])) (fun _ k => XS.ifNo X1.here hx rfl (hb hby d4_5) rfl ((if0 _ _).trans (teq hc2).2) k) ?_
  refine own_go (st' := T1.setTop (mkF m 9 #[oR a1, oR ax, oi 0, oi 0, .val .null, .unset] [(.ref a1)])) (fun _ k => XS.aloadN X1.here hx rfl (hb hby d4_8) rfl rfl k) ?_
  obtain ⟨b3, T3, h3, k3, bv3, kv3, X3, e3, E3, hS3, hk3, hZ, hown, xa3, xb3, xc3, xd3, -, -, CR3, LT3, SF3, st3⟩ := ldcCH X1 hx hZ hown (own_hw hw 73) (own_wS hw) e1 hS0 (by omega) hEL (by decide) A0.1 (vs := []) (z := (0 : Int32)) ⟨by decide, rfl⟩ (by decide) rfl (g := (mkF m 9 #[oR a1, oR ax, oi 0, oi 0, .val .null, .unset] [(.ref a1)])) rfl (hb hby d4_9) (n := 0) (by decide +kernel) (by decide) (by decide) (by decide)
  have sz3 : h0.size ≤ h3.size := E3.1
  have lta3 : @LT.lt Nat _ b3 h3.size := xa3.lt
  have ltb3 : @LT.lt Nat _ bv3 h3.size := xd3.lt
  have AA4 := A0.trans CR3
  have sf5 := CHr.safe CR3 (show @LT.lt Nat _ a1 h0.size by omega) sf_a1
  have nsa3_a1 : @Ne Nat a1 b3 := (SF3 _ sf5).1
  have nsb3_a1 : @Ne Nat a1 bv3 := (SF3 _ sf5).2
  refine own_go (st' := T3.setTop (mkF m 11 #[oR a1, oR ax, oi 0, oi 0, .val .null, .unset] [(.ref b3), (.ref a1)])) (st3) ?_
  obtain ⟨T6, X6, e6, st6⟩ := getF X3 hx hZ hown (host := "") (Or.inl (own_hw hw 35)) Via.refl e3 xc3 (g := (mkF m 11 #[oR a1, oR ax, oi 0, oi 0, .val .null, .unset] [(.ref b3), (.ref a1)])) rfl rfl (hb hby d4_11)
  refine own_go (st' := T6.setTop (mkF m 14 #[oR a1, oR ax, oi 0, oi 0, .val .null, .unset] [(.ref bv3), (.ref a1)])) (st6) ?_
  have c7 : Fld Z h3 a1 oS0 "value" "[B" .null := (pr2.ext E3)
  have c8 : Exa Z h3 a1 oS0 := (pr1.ext E3)
  obtain ⟨T9, h9, X9, e9, W9, st9⟩ := putF X6 hx hZ hown (host := "") (Or.inl (own_hw hw 35)) Via.refl e6 c7 c8 (Or.inr ⟨(own_hw hw 36), rfl, hnm⟩) (own_hw hw 8) (ty := (.array .byte)) (by decide) rfl rfl (g := (mkF m 14 #[oR a1, oR ax, oi 0, oi 0, .val .null, .unset] [(.ref bv3), (.ref a1)])) rfl rfl (hb hby d4_14)
  have sz9 : h9.size = h3.size := W9.size
  have N9 := Fr.snoc X9 N0 (by omega)
  have f9 : Fld Z h9 a1 oS0 "value" "[B" (.ref bv3) := c7.same W9
  refine own_go (st' := T9.setTop (mkF m 17 #[oR a1, oR ax, oi 0, oi 0, .val .null, .unset] [])) (st9) ?_
  refine own_go (st' := T9.setTop (mkF m 18 #[oR a1, oR ax, oi 0, oi 0, .val .null, .unset] [(.ref a1)])) (fun _ k => XS.aloadN X9.here hx rfl (hb hby d4_17) rfl rfl k) ?_
  refine own_go (st' := T9.setTop (mkF m 20 #[oR a1, oR ax, oi 0, oi 0, .val .null, .unset] [(.ref b3), (.ref a1)])) (ldcAgain X9 hx hZ hown (own_hw hw 73) LT3 (g := (mkF m 18 #[oR a1, oR ax, oi 0, oi 0, .val .null, .unset] [(.ref a1)])) rfl (hb hby d4_18)) ?_
  have c11 : Fld Z h9 b3 oS0 "coder" "B" (.int (0 : Int32)) := (xb3.other W9 (Or.inl (own_ne (by omega))))
  obtain ⟨T12, X12, e12, st12⟩ := getF X9 hx hZ hown (host := "") (Or.inl (own_hw hw 33)) Via.refl e9 c11 (g := (mkF m 20 #[oR a1, oR ax, oi 0, oi 0, .val .null, .unset] [(.ref b3), (.ref a1)])) rfl rfl (hb hby d4_20)
  refine own_go (st' := T12.setTop (mkF m 23 #[oR a1, oR ax, oi 0, oi 0, .val .null, .unset] [(.int (0 : Int32)), (.ref a1)])) (st12) ?_
  have c13 : Fld Z h9 a1 oS0 "coder" "B" (.int (0 : Int32)) := ((pr3.ext E3).other W9 (Or.inr (slot_ne (Or.inr (own_hw hw 34)) (Or.inr (own_hw hw 36)) (by decide) (t := .byte) (t' := (.array .byte)) (by decide) (by decide))))
  have c14 : Exa Z h9 a1 oS0 := (c8.wr W9)
  obtain ⟨T15, h15, X15, e15, W15, st15⟩ := putFN X12 hx hZ hown (own_hw hw 33) Via.refl e12 c13 c14 (Or.inr ⟨(own_hw hw 34), rfl, hnm⟩) (own_hw hw 8) (ty := .byte) (v' := (.int (0 : Int32))) (by decide) rfl rfl (g := (mkF m 23 #[oR a1, oR ax, oi 0, oi 0, .val .null, .unset] [(.int (0 : Int32)), (.ref a1)])) rfl rfl (hb hby d4_23)
  have sz15 : h15.size = h9.size := W15.size
  have N15 := Fr.snoc X15 N9 (by omega)
  have f15 : Fld Z h15 a1 oS0 "coder" "B" (.int (0 : Int32)) := c13.same W15
  refine own_go (st' := T15.setTop (mkF m 26 #[oR a1, oR ax, oi 0, oi 0, .val .null, .unset] [])) (st15) ?_
  have KA17 : Keep h3 h15 [a1] := (((Keep.refl h3 [a1]).wr W9 (Or.inl (List.mem_of_getElem? (i := 0) rfl))).wr W15 (Or.inl (List.mem_of_getElem? (i := 0) rfl)))
  have AS17 := CHr.keep (EL := own_EL) KA17 (allS (P := fun x => Safe Z own_EL _ h3 x) sf5 all0) AA4.1
  have AA18 := AA4.trans AS17
  have sf19 := CHr.safe AS17 (show @LT.lt Nat _ a1 h3.size by omega) sf5
  obtain ⟨fs, hr, hrun, hended, hR1, hR2, hR3, hR4⟩ := X15.leaveW hS3 (by rw [e15]; omega) (v := none) (fun _ => rfl)
  refine ⟨_, _, ?_, hP _ _ hrun hended ⟨_, _, rfl, ?_, (by rw [hh]; show CHr Z own_EL s.vm h0 T15.vm T15.heap; rw [e15]; exact AA18.trans (CHv.at X15 hZ hEL AA18.1)), hR1, hR2, hR3, hR4.mono (by decide) (by decide)⟩⟩
  · exact X15.returnOut hx Bd.returns (hb hby d4_26) hr
  · show Qrsi_0 Z a1 ax h0 n0 _ T15.heap _
    have c20 : Exa Z h15 a1 oS0 := (c14.wr W15)
    have c21 : Fld Z h15 a1 oS0 "value" "[B" (.ref bv3) := (f9.other W15 (Or.inr (slot_ne (Or.inr (own_hw hw 36)) (Or.inr (own_hw hw 34)) (by decide) (t := (.array .byte)) (t' := .byte) (by decide) (by decide))))
    have c22 : Arv Z h15 bv3 kv3 .byte (0 : Int32) [] (.int (0 : Int32)) := ((xd3.other W9 (own_ne (by omega))).other W15 (own_ne (by omega)))
    rw [e15]
    exact ⟨bv3, kv3, rfl, N15, ((((Keep.refl h0 [a1]).ext E3).wr W9 (Or.inl (List.mem_of_getElem? (i := 0) rfl))).wr W15 (Or.inl (List.mem_of_getElem? (i := 0) rfl))), c20, c21, f15, c22⟩
theorem ef_rsc_0 (m : MethodId) (x0 : Addr) (x1 : Addr) : entryFrame m #[(.ref x0), (.ref x1)] 2 = mkF m 0 #[.val (.ref x0), .val (.ref x1)] [] := by first | (simp [entryFrame, mkF, argsToLocals, Value.category]; done) | rfl
def Qrsc_0 (Z : State) (a1 : Addr) (ax : Addr) (ka : ClassId) (h0 : Heap) (n0 : Nat) (v : Option Value) (h : Heap) (L : List Loc) : Prop := ∃ (r : Addr) (kr : ClassId), (v = none) ∧ (Fr n0 L) ∧ (Keep h0 h [a1]) ∧ (Exa Z h a1 "java/lang/String") ∧ (Fld Z h a1 "java/lang/String" "value" "[B" (.ref r)) ∧ (Fld Z h a1 "java/lang/String" "coder" "B" (.int (0 : Int32))) ∧ (Arv Z h r kr .byte (0 : Int32) [] (.int (0 : Int32)))
set_option maxRecDepth 65536 in
set_option maxHeartbeats 40000000 in
theorem rsc_0 (l : Launch) (Z : State) (a0 : Array Value) (hw : ∀ d ∈ tables_1, d.before a0 Z = true) (ws : List Jvm.Cond) (a1 : Addr) (ax : Addr) (ka : ClassId) (h0 : Heap) (n0 : Nat) (Z0 : n0 ≤ h0.size) (pr1 : Exa Z h0 a1 oS0) (pr2 : Fld Z h0 a1 oS0 "value" "[B" .null) (pr3 : Fld Z h0 a1 oS0 "coder" "B" (.int (0 : Int32))) (pr4 : Arv Z h0 ax ka .char (0 : Int32) [] (.int (0 : Int32))) (pr5 : n0 ≤ a1) :
    MetFree l oM3 (head1 (Jvm.Cond.code oM3 jdk_42_method_3_code 2 none :: ws) ({ frames := 2, cells := 2, slots := 4, locals := 29 } : Room)) (fun a U => a = #[(.ref a1), (.ref ax)] ∧ Z.Warmed39 U.vm ∧ U.heap = h0 ∧ CHv Z own_EL U.vm h0) (fun _ _ _ _ _ => True) (fun _ U o U' => ∃ v L, o = .returned v ∧ Qrsc_0 Z a1 ax ka h0 n0 v U'.heap L ∧ CHr Z own_EL U.vm U.heap U'.vm U'.heap ∧ ReturnedEndW U o U' L ({ frames := 2, cells := 2, slots := 4, locals := 29 } : Room).cells ({ frames := 2, cells := 2, slots := 4, locals := 29 } : Room).slots) := by
  refine MetFree.of_bodySF (plainFor_of_name pn_3) hisR ?_
  intro p e s m args below meth c s₁ Bd hml0 hP0 hK
  obtain ⟨rfl, hZ, hh, hC0⟩ := hP0
  have hx := Bd.exec
  have hby := Bd.bytes
  have hml : c.maxLocals = 2 := hml0
  have hown : s.vm.findClass oS0 = some m.cls := findClass_of_methodNamed Bd.named
  have hnm := (name_of_methodNamed Bd.named Bd.method).1
  have X0 : Stand p l e ({ frames := 2, cells := 2, slots := 4, locals := 29 } : Room) (s.setVm s.vm) m #[(.ref a1), (.ref ax)] below meth c s₁ [] 0 0 := Stand.of_body Bd
  have hS0 : s.Since s.vm h0.size := (State.WarmedH.refl s).since _
  have hZ : Z.Warmed39 (s.setVm s.vm).vm := hZ
  have hown : (s.setVm s.vm).vm.findClass oS0 = some m.cls := hown
  have e0 : s₁.heap = h0 := by rw [← hh, Bd.state]; rfl
  have N0 := Fr.nil n0
  suffices own_H : ∀ (P : State → Outcome → Prop), (∀ U o, U.status = .running → Ended U below o → (∃ v L, o = .returned v ∧ Qrsc_0 Z a1 ax ka h0 n0 v U.heap L ∧ CHr Z own_EL s.vm s.heap U.vm U.heap ∧ ReturnedEndW s o U L ({ frames := 2, cells := 2, slots := 4, locals := 29 } : Room).cells ({ frames := 2, cells := 2, slots := 4, locals := 29 } : Room).slots) → P U o) → own_Go p.tables e below P (s₁.setTop (mkF m 0 #[oR a1, oR ax] [])) from own_go (fun _ k => castTop (ef_rsc_0 m a1 ax) k) (own_H _ (fun U o h1 h2 h3 => ⟨h1, h2, h3⟩))
  intro P hP
  have hEL : EW Z a0 own_EL := own_ew hw
  have A0 : CHr Z own_EL s.vm h0 s.vm h0 := CHr.refl hC0
  have sf_a1 : Safe Z own_EL s.vm h0 a1 := own_safe_null hZ.alike pr1 pr2
  have lt_a1 : @LT.lt Nat _ a1 h0.size := pr1.lt
  have lt_ax : @LT.lt Nat _ ax h0.size := pr4.lt
  refine own_go (st' := s₁.setTop (mkF m 1 #[oR a1, oR ax] [(.ref a1)])) (fun _ k => XS.aloadN X0.here hx rfl (hb hby d3_0) rfl rfl k) ?_
  refine own_go (st' := s₁.setTop (mkF m 2 #[oR a1, oR ax] [(.ref ax), (.ref a1)])) (fun _ k => XS.aloadN X0.here hx rfl (hb hby d3_1) rfl rfl k) ?_
  refine own_go (st' := s₁.setTop (mkF m 3 #[oR a1, oR ax] [(.int (0 : Int32)), (.ref ax), (.ref a1)])) (fun _ k => XS.iconst X0.here hx rfl (hb hby d3_2) k) ?_
  refine own_go (st' := s₁.setTop (mkF m 4 #[oR a1, oR ax] [(.ref ax), (.int (0 : Int32)), (.ref ax), (.ref a1)])) (fun _ k => XS.aloadN X0.here hx rfl (hb hby d3_3) rfl rfl k) ?_
  obtain ⟨cl1, Ar1, -, S1, M1, -, -⟩ := id pr4
  refine own_go (st' := s₁.setTop (mkF m 5 #[oR a1, oR ax] [(.int (0 : Int32)), (.int (0 : Int32)), (.ref ax), (.ref a1)])) (fun t k => X0.arraylength hx (by rw [e0]; exact Ar1.1) (State.isArrayOf_alike hZ.alike Ar1.2.1) (g := (mkF m 4 #[oR a1, oR ax] [(.ref ax), (.int (0 : Int32)), (.ref ax), (.ref a1)])) rfl rfl (hb hby d3_4) t (by rw [len_of S1 M1]; exact k)) ?_
  refine own_go (st' := s₁.setTop (mkF m 6 #[oR a1, oR ax] [.null, (.int (0 : Int32)), (.int (0 : Int32)), (.ref ax), (.ref a1)])) (fun _ k => XS.aconstNull X0.here hx rfl (hb hby d3_5) k) ?_
  obtain ⟨_, _, ⟨T2, LC2, kC2, nC2⟩, -, X2, hS2, hg2, ⟨Lc2, hQ2, lq2, yq2, zq2, CR2⟩, st2⟩ := X0.specialBackS hx (y := oM2) rfl hown (mvT hZ (own_hw hw 14)) (mvT hZ (own_hw hw 15)) (mvT hZ (own_hw hw 17)) (by decide) (backOfSH (W := 0) (rsi_0 l Z a0 hw [] a1 ax h0 n0 (by omega) pr1 pr2 pr3 (by omega)) hZ (own_hw hw 17) (own_hw hw 9) (by decide) (by decide) hEL A0.1) (g := (mkF m 6 #[oR a1, oR ax] [.null, (.int (0 : Int32)), (.int (0 : Int32)), (.ref ax), (.ref a1)])) rfl (by rw [hml]; rfl) (Steps.refl _) (a := a1) (argsL := [(.ref ax), (.int (0 : Int32)), (.int (0 : Int32)), .null]) (rest := []) (lenOf pd_3 rfl) rfl (by show 2 * 0 + _ ≤ _; exact Nat.le_of_eq rfl) (hb hby d3_6) (fun _ _ => ⟨rfl, e0, (by decide : 0 + 2 ≤ _), (by decide : 0 + 4 ≤ _)⟩)
  dsimp only [Pt.U, Pt.locs, Pt.cells, Pt.slots] at X2 lq2 yq2 zq2 st2 hQ2
  subst lq2 yq2 zq2
  dsimp only [Pt.U, Pt.locs, Pt.cells, Pt.slots] at hS2 hg2 CR2
  obtain ⟨X2, hS2, hZ, hown⟩ := rebS hS0 (by rw [e0]; omega) X2 hS2 hg2 hZ hown
  obtain ⟨h2, e2⟩ : ∃ z, T2.heap = z := ⟨_, rfl⟩
  rw [e2] at hQ2 hS2
  obtain ⟨r_2, kr_2, rfl, Nq2, K2, g2_0, g2_1, g2_2, g2_3⟩ := hQ2
  have sz2 : h0.size ≤ h2.size := K2.1
  rw [e2] at CR2
  have AA3 := A0.trans CR2
  have sf4 := CHr.safe CR2 (show @LT.lt Nat _ a1 h0.size by omega) sf_a1
  have N2 := Fr.app N0 Nq2
  have lt2_1 : @LT.lt Nat _ a1 h2.size := g2_0.lt
  have lt2_2 : @LT.lt Nat _ r_2 h2.size := g2_3.lt
  have ap5 : @Ne Nat a1 r_2 := own_ne_oa (own_hw hw 8) g2_0 g2_3
  refine own_go (st' := T2.setTop (mkF m 9 #[oR a1, oR ax] [])) (fun _ k => st2.trans k) ?_
  obtain ⟨fs, hr, hrun, hended, hR1, hR2, hR3, hR4⟩ := X2.leaveW hS2 (by rw [e2]; omega) (v := none) (fun _ => rfl)
  refine ⟨_, _, ?_, hP _ _ hrun hended ⟨_, _, rfl, ?_, (by rw [hh]; show CHr Z own_EL s.vm h0 T2.vm T2.heap; rw [e2]; exact AA3.trans (CHv.at X2 hZ hEL AA3.1)), hR1, hR2, hR3, hR4.mono (by decide) (by decide)⟩⟩
  · exact X2.returnOut hx Bd.returns (hb hby d3_9) hr
  · show Qrsc_0 Z a1 ax ka h0 n0 _ T2.heap _
    rw [e2]
    exact ⟨r_2, kr_2, rfl, N2, ((Keep.refl h0 [a1]).trans K2 (allS (P := fun x => x ∈ [a1] ∨ h0.size ≤ x) (Or.inl (List.mem_of_getElem? (i := 0) rfl)) all0)), g2_0, g2_1, g2_2, g2_3⟩
theorem d12_0 : decode jdk_43_method_13_code 0 = .ok (.aload_n 0, 1) := by decide +kernel
theorem d12_1 : decode jdk_43_method_13_code 1 = .ok (.arraylength, 1) := by decide +kernel
theorem d12_2 : decode jdk_43_method_13_code 2 = .ok (.aload_n 1, 1) := by decide +kernel
theorem d12_3 : decode jdk_43_method_13_code 3 = .ok (.arraylength, 1) := by decide +kernel
theorem d12_4 : decode jdk_43_method_13_code 4 = .ok (.if_icmp .ne 30, 3) := by decide +kernel
theorem d12_34 : decode jdk_43_method_13_code 34 = .ok (.iconst 0, 1) := by decide +kernel
theorem d12_35 : decode jdk_43_method_13_code 35 = .ok (.ireturn, 1) := by decide +kernel
theorem pn_12 : plainName "java/lang/StringLatin1" = true := by first | (simp [plainName, overriddenIn]; done) | decide +kernel
theorem ef_rle_30 (m : MethodId) (x0 : Addr) (x1 : Addr) : entryFrame m #[(.ref x0), (.ref x1)] 3 = mkF m 0 #[.val (.ref x0), .val (.ref x1), .unset] [] := by first | (simp [entryFrame, mkF, argsToLocals, Value.category]; done) | rfl
def Qrle_30 (Z : State) (ax : Addr) (ka : ClassId) (ay : Addr) (kb : ClassId) (w0 : Int32) (w1 : Int32) (w2 : Int32) (h0 : Heap) (n0 : Nat) (v : Option Value) (h : Heap) (L : List Loc) : Prop := (v = some (.int (0 : Int32))) ∧ (Fr n0 L) ∧ (h = h0)
set_option maxRecDepth 65536 in
set_option maxHeartbeats 40000000 in
theorem rle_30 (l : Launch) (Z : State) (a0 : Array Value) (hw : ∀ d ∈ tables_1, d.before a0 Z = true) (ws : List Jvm.Cond) (ax : Addr) (ka : ClassId) (ay : Addr) (kb : ClassId) (w0 : Int32) (w1 : Int32) (w2 : Int32) (h0 : Heap) (n0 : Nat) (Z0 : n0 ≤ h0.size) (pr1 : Arv Z h0 ax ka .byte (3 : Int32) [(.int w0), (.int w1), (.int w2)] (.int (0 : Int32))) (pr2 : Arv Z h0 ay kb .byte (0 : Int32) [] (.int (0 : Int32))) :
    MetFree l oM4 (head1 (Jvm.Cond.code oM4 jdk_43_method_13_code 3 (some .boolean) :: ws) ({ frames := 0, cells := 0, slots := 0, locals := 0 } : Room)) (fun a U => a = #[(.ref ax), (.ref ay)] ∧ Z.Warmed39 U.vm ∧ U.heap = h0) (fun _ _ _ _ _ => True) (fun _ U o U' => ∃ v L, o = .returned v ∧ Qrle_30 Z ax ka ay kb w0 w1 w2 h0 n0 v U'.heap L ∧ FrameEnd U o U' L ({ frames := 0, cells := 0, slots := 0, locals := 0 } : Room).cells ({ frames := 0, cells := 0, slots := 0, locals := 0 } : Room).slots) := by
  refine MetFree.of_bodySF (plainFor_of_name pn_12) hisR ?_
  intro p e s m args below meth c s₁ Bd hml0 hP0 hK
  obtain ⟨rfl, hZ, hh⟩ := hP0
  have hx := Bd.exec
  have hby := Bd.bytes
  have hml : c.maxLocals = 3 := hml0
  have hown : s.vm.findClass oS8 = some m.cls := findClass_of_methodNamed Bd.named
  have hnm := (name_of_methodNamed Bd.named Bd.method).1
  have X0 : Stand p l e ({ frames := 0, cells := 0, slots := 0, locals := 0 } : Room) s m #[(.ref ax), (.ref ay)] below meth c s₁ [] 0 0 := Stand.of_body Bd
  have e0 : s₁.heap = h0 := by rw [← hh, Bd.state]; rfl
  have N0 := Fr.nil n0
  suffices own_H : ∀ (P : State → Outcome → Prop), (∀ U o, U.status = .running → Ended U below o → (∃ v L, o = .returned v ∧ Qrle_30 Z ax ka ay kb w0 w1 w2 h0 n0 v U.heap L ∧ FrameEnd s o U L ({ frames := 0, cells := 0, slots := 0, locals := 0 } : Room).cells ({ frames := 0, cells := 0, slots := 0, locals := 0 } : Room).slots) → P U o) → own_Go p.tables e below P (s₁.setTop (mkF m 0 #[oR ax, oR ay, .unset] [])) from own_go (fun _ k => castTop (ef_rle_30 m ax ay) k) (own_H _ (fun U o h1 h2 h3 => ⟨h1, h2, h3⟩))
  intro P hP
  have lt_ax : @LT.lt Nat _ ax h0.size := pr1.lt
  have lt_ay : @LT.lt Nat _ ay h0.size := pr2.lt
  refine own_go (st' := s₁.setTop (mkF m 1 #[oR ax, oR ay, .unset] [(.ref ax)])) (fun _ k => XS.aloadN X0.here hx rfl (hb hby d12_0) rfl rfl k) ?_
  obtain ⟨cl1, Ar1, -, S1, M1, -, -⟩ := id pr1
  refine own_go (st' := s₁.setTop (mkF m 2 #[oR ax, oR ay, .unset] [(.int (3 : Int32))])) (fun t k => X0.arraylength hx (by rw [e0]; exact Ar1.1) (State.isArrayOf_alike hZ.alike Ar1.2.1) (g := (mkF m 1 #[oR ax, oR ay, .unset] [(.ref ax)])) rfl rfl (hb hby d12_1) t (by rw [len_of S1 M1]; exact k)) ?_
  refine own_go (st' := s₁.setTop (mkF m 3 #[oR ax, oR ay, .unset] [(.ref ay), (.int (3 : Int32))])) (fun _ k => XS.aloadN X0.here hx rfl (hb hby d12_2) rfl rfl k) ?_
  obtain ⟨cl2, Ar2, -, S2, M2, -, -⟩ := id pr2
  refine own_go (st' := s₁.setTop (mkF m 4 #[oR ax, oR ay, .unset] [(.int (0 : Int32)), (.int (3 : Int32))])) (fun t k => X0.arraylength hx (by rw [e0]; exact Ar2.1) (State.isArrayOf_alike hZ.alike Ar2.2.1) (g := (mkF m 3 #[oR ax, oR ay, .unset] [(.ref ay), (.int (3 : Int32))])) rfl rfl (hb hby d12_3) t (by rw [len_of S2 M2]; exact k)) ?_
  have hc3 : ¬ ((3 : Int32) = (0 : Int32)) := by decide
  refine own_go (st' := s₁.setTop (mkF m 34 #[oR ax, oR ay, .unset] [])) (fun _ k => XS.icmpYes X0.here hx rfl (pc0 := 4) (pc' := 34) rfl (hb hby d12_4) rfl (feq hc3).2 (by decide) (by decide) k) ?_
  refine own_go (st' := s₁.setTop (mkF m 35 #[oR ax, oR ay, .unset] [(.int (0 : Int32))])) (fun _ k => XS.iconst X0.here hx rfl (hb hby d12_34) k) ?_
  obtain ⟨fs, hr, hrun, hended, hW, hsame⟩ := X0.leave (v := some (.int (0 : Int32))) (fun h => by rw [Bd.returns] at h; cases h)
  refine ⟨_, _, ?_, hP _ _ hrun hended ⟨_, _, rfl, ?_, ⟨_, rfl⟩, hW, hsame.mono (by decide) (by decide)⟩⟩
  · exact retN X0 hx (t := .boolean) Bd.returns (by simp) (hb hby d12_35) hr
  · show Qrle_30 Z ax ka ay kb w0 w1 w2 h0 n0 _ s₁.heap _
    rw [e0]
    exact ⟨rfl, N0, rfl⟩
theorem pd_4 : parseMethodDescriptor "([B[B)Z" = some ⟨[(.array .byte), (.array .byte)], some .boolean⟩ := by decide +kernel
theorem d11_0 : decode jdk_42_method_66_code 0 = .ok (.aload_n 0, 1) := by decide +kernel
theorem d11_1 : decode jdk_42_method_66_code 1 = .ok (.aload_n 1, 1) := by decide +kernel
theorem d11_2 : decode jdk_42_method_66_code 2 = .ok (.if_acmp .ne 5, 3) := by decide +kernel
theorem d11_7 : decode jdk_42_method_66_code 7 = .ok (.aload_n 1, 1) := by decide +kernel
theorem d11_8 : decode jdk_42_method_66_code 8 = .ok (.instanceof 10, 3) := by decide +kernel
theorem d11_11 : decode jdk_42_method_66_code 11 = .ok (.ifCond .eq 43, 3) := by decide +kernel
theorem d11_14 : decode jdk_42_method_66_code 14 = .ok (.aload_n 1, 1) := by decide +kernel
theorem d11_15 : decode jdk_42_method_66_code 15 = .ok (.checkcast 10, 3) := by decide +kernel
theorem d11_18 : decode jdk_42_method_66_code 18 = .ok (.astore_n 2, 1) := by decide +kernel
theorem d11_19 : decode jdk_42_method_66_code 19 = .ok (.getstatic 38, 3) := by decide +kernel
theorem d11_22 : decode jdk_42_method_66_code 22 = .ok (.ifCond .eq 14, 3) := by decide +kernel
theorem d11_25 : decode jdk_42_method_66_code 25 = .ok (.aload_n 0, 1) := by decide +kernel
theorem d11_26 : decode jdk_42_method_66_code 26 = .ok (.getfield 15, 3) := by decide +kernel
theorem d11_29 : decode jdk_42_method_66_code 29 = .ok (.aload_n 2, 1) := by decide +kernel
theorem d11_30 : decode jdk_42_method_66_code 30 = .ok (.getfield 15, 3) := by decide +kernel
theorem d11_33 : decode jdk_42_method_66_code 33 = .ok (.if_icmp .ne 21, 3) := by decide +kernel
theorem d11_36 : decode jdk_42_method_66_code 36 = .ok (.aload_n 0, 1) := by decide +kernel
theorem d11_37 : decode jdk_42_method_66_code 37 = .ok (.getfield 9, 3) := by decide +kernel
theorem d11_40 : decode jdk_42_method_66_code 40 = .ok (.aload_n 2, 1) := by decide +kernel
theorem d11_41 : decode jdk_42_method_66_code 41 = .ok (.getfield 9, 3) := by decide +kernel
theorem d11_44 : decode jdk_42_method_66_code 44 = .ok (.invokestatic 541, 3) := by decide +kernel
theorem d11_47 : decode jdk_42_method_66_code 47 = .ok (.ifCond .eq 7, 3) := by decide +kernel
theorem d11_54 : decode jdk_42_method_66_code 54 = .ok (.iconst 0, 1) := by decide +kernel
theorem d11_55 : decode jdk_42_method_66_code 55 = .ok (.ireturn, 1) := by decide +kernel
theorem pn_11 : plainName "java/lang/String" = true := by first | (simp [plainName, overriddenIn]; done) | decide +kernel
theorem ef_rse_30 (m : MethodId) (x0 : Addr) (x1 : Addr) : entryFrame m #[(.ref x0), (.ref x1)] 3 = mkF m 0 #[.val (.ref x0), .val (.ref x1), .unset] [] := by first | (simp [entryFrame, mkF, argsToLocals, Value.category]; done) | rfl
def Qrse_30 (Z : State) (a1 : Addr) (a2 : Addr) (zc : Int32) (ax : Addr) (ka : ClassId) (ay : Addr) (kb : ClassId) (w0 : Int32) (w1 : Int32) (w2 : Int32) (h0 : Heap) (n0 : Nat) (v : Option Value) (h : Heap) (L : List Loc) : Prop := (v = some (.int (0 : Int32))) ∧ (Fr n0 L) ∧ (h = h0)
set_option maxRecDepth 65536 in
set_option maxHeartbeats 40000000 in
theorem rse_30 (l : Launch) (Z : State) (a0 : Array Value) (hw : ∀ d ∈ tables_1, d.before a0 Z = true) (ws : List Jvm.Cond) (a1 : Addr) (a2 : Addr) (zc : Int32) (ax : Addr) (ka : ClassId) (ay : Addr) (kb : ClassId) (w0 : Int32) (w1 : Int32) (w2 : Int32) (h0 : Heap) (n0 : Nat) (Z0 : n0 ≤ h0.size) (pr1 : Sta Z h0 oS0 oS3 "Z" (.int zc)) (hzc : ¬ zc = (0 : Int32)) (pr2 : @Ne Nat a1 a2) (pr3 : Exa Z h0 a1 oS0) (pr4 : Fld Z h0 a1 oS0 "value" "[B" (.ref ax)) (pr5 : Fld Z h0 a1 oS0 "coder" "B" (.int (0 : Int32))) (pr6 : Exa Z h0 a2 oS0) (pr7 : Fld Z h0 a2 oS0 "value" "[B" (.ref ay)) (pr8 : Fld Z h0 a2 oS0 "coder" "B" (.int (0 : Int32))) (pr9 : Arv Z h0 ax ka .byte (3 : Int32) [(.int w0), (.int w1), (.int w2)] (.int (0 : Int32))) (pr10 : Arv Z h0 ay kb .byte (0 : Int32) [] (.int (0 : Int32))) :
    MetFree l oM0 (head1 (Jvm.Cond.code oM0 jdk_42_method_66_code 3 (some .boolean) :: ws) ({ frames := 1, cells := 0, slots := 0, locals := 14 } : Room)) (fun a U => a = #[(.ref a1), (.ref a2)] ∧ Z.Warmed39 U.vm ∧ U.heap = h0) (fun _ _ _ _ _ => True) (fun _ U o U' => ∃ v L, o = .returned v ∧ Qrse_30 Z a1 a2 zc ax ka ay kb w0 w1 w2 h0 n0 v U'.heap L ∧ FrameEnd U o U' L ({ frames := 1, cells := 0, slots := 0, locals := 14 } : Room).cells ({ frames := 1, cells := 0, slots := 0, locals := 14 } : Room).slots) := by
  refine MetFree.of_bodySF (plainFor_of_name pn_11) hisR ?_
  intro p e s m args below meth c s₁ Bd hml0 hP0 hK
  obtain ⟨rfl, hZ, hh⟩ := hP0
  have hx := Bd.exec
  have hby := Bd.bytes
  have hml : c.maxLocals = 3 := hml0
  have hown : s.vm.findClass oS0 = some m.cls := findClass_of_methodNamed Bd.named
  have hnm := (name_of_methodNamed Bd.named Bd.method).1
  have X0 : Stand p l e ({ frames := 1, cells := 0, slots := 0, locals := 14 } : Room) s m #[(.ref a1), (.ref a2)] below meth c s₁ [] 0 0 := Stand.of_body Bd
  have e0 : s₁.heap = h0 := by rw [← hh, Bd.state]; rfl
  have N0 := Fr.nil n0
  suffices own_H : ∀ (P : State → Outcome → Prop), (∀ U o, U.status = .running → Ended U below o → (∃ v L, o = .returned v ∧ Qrse_30 Z a1 a2 zc ax ka ay kb w0 w1 w2 h0 n0 v U.heap L ∧ FrameEnd s o U L ({ frames := 1, cells := 0, slots := 0, locals := 14 } : Room).cells ({ frames := 1, cells := 0, slots := 0, locals := 14 } : Room).slots) → P U o) → own_Go p.tables e below P (s₁.setTop (mkF m 0 #[oR a1, oR a2, .unset] [])) from own_go (fun _ k => castTop (ef_rse_30 m a1 a2) k) (own_H _ (fun U o h1 h2 h3 => ⟨h1, h2, h3⟩))
  intro P hP
  have lt_a1 : @LT.lt Nat _ a1 h0.size := pr3.lt
  have lt_a2 : @LT.lt Nat _ a2 h0.size := pr6.lt
  have lt_ax : @LT.lt Nat _ ax h0.size := pr9.lt
  have lt_ay : @LT.lt Nat _ ay h0.size := pr10.lt
  refine own_go (st' := s₁.setTop (mkF m 1 #[oR a1, oR a2, .unset] [(.ref a1)])) (fun _ k => XS.aloadN X0.here hx rfl (hb hby d11_0) rfl rfl k) ?_
  refine own_go (st' := s₁.setTop (mkF m 2 #[oR a1, oR a2, .unset] [(.ref a2), (.ref a1)])) (fun _ k => XS.aloadN X0.here hx rfl (hb hby d11_1) rfl rfl k) ?_
  have hc1 : ¬ (a1 = a2) := (fun q_ => (own_ne' (by assumption)) q_)
  refine own_go (st' := s₁.setTop (mkF m 7 #[oR a1, oR a2, .unset] [])) (fun _ k => Jvm.RoadKit.acmp (g := (mkF m 2 #[oR a1, oR a2, .unset] [(.ref a2), (.ref a1)])) X0 hx rfl rfl rfl (pc0 := 2) (pc' := 7) (same := false) rfl (hb hby d11_2) rfl (decide_eq_false fun q_ => hc1 (Value.ref.inj q_)) (by decide) (by decide) k) ?_
  refine own_go (st' := s₁.setTop (mkF m 8 #[oR a1, oR a2, .unset] [(.ref a2)])) (fun _ k => XS.aloadN X0.here hx rfl (hb hby d11_7) rfl rfl k) ?_
  obtain ⟨T2, X2, e2, st2⟩ := instY X0 hx hZ hown (own_hw hw 65) e0 (Ins.self pr6) (g := (mkF m 8 #[oR a1, oR a2, .unset] [(.ref a2)])) rfl rfl (hb hby d11_8)
  refine own_go (st' := T2.setTop (mkF m 11 #[oR a1, oR a2, .unset] [(.int (1 : Int32))])) (st2) ?_
  have hc3 : ¬ ((1 : Int32) = (0 : Int32)) := by decide
  refine own_go (st' := T2.setTop (mkF m 14 #[oR a1, oR a2, .unset] [])) (fun _ k => XS.ifNo X2.here hx rfl (hb hby d11_11) rfl ((if0 _ _).trans (feq hc3).1) k) ?_
  refine own_go (st' := T2.setTop (mkF m 15 #[oR a1, oR a2, .unset] [(.ref a2)])) (fun _ k => XS.aloadN X2.here hx rfl (hb hby d11_14) rfl rfl k) ?_
  obtain ⟨T4, X4, e4, st4⟩ := castY X2 hx hZ hown (own_hw hw 65) e2 (Ins.self pr6) (g := (mkF m 15 #[oR a1, oR a2, .unset] [(.ref a2)])) rfl rfl (hb hby d11_15)
  refine own_go (st' := T4.setTop (mkF m 18 #[oR a1, oR a2, .unset] [(.ref a2)])) (st4) ?_
  refine own_go (st' := T4.setTop (mkF m 19 #[oR a1, oR a2, oR a2] [])) (fun _ k => XS.astoreN X4.here hx rfl (hb hby d11_18) rfl rfl (l' := #[oR a1, oR a2, oR a2]) rfl k) ?_
  obtain ⟨T5, X5, e5, st5⟩ := getS2 X4 hx hZ hown (host := "") (Or.inl (own_hw hw 21)) Via.refl e4 pr1 (g := (mkF m 19 #[oR a1, oR a2, oR a2] [])) rfl (hb hby d11_19)
  refine own_go (st' := T5.setTop (mkF m 22 #[oR a1, oR a2, oR a2] [(.int zc)])) (st5) ?_
  have hc6 : ¬ (zc = (0 : Int32)) := hzc
  refine own_go (st' := T5.setTop (mkF m 25 #[oR a1, oR a2, oR a2] [])) (fun _ k => XS.ifNo X5.here hx rfl (hb hby d11_22) rfl ((if0 _ _).trans (feq hc6).1) k) ?_
  refine own_go (st' := T5.setTop (mkF m 26 #[oR a1, oR a2, oR a2] [(.ref a1)])) (fun _ k => XS.aloadN X5.here hx rfl (hb hby d11_25) rfl rfl k) ?_
  obtain ⟨T7, X7, e7, st7⟩ := getF X5 hx hZ hown (host := "") (Or.inl (own_hw hw 33)) Via.refl e5 pr5 (g := (mkF m 26 #[oR a1, oR a2, oR a2] [(.ref a1)])) rfl rfl (hb hby d11_26)
  refine own_go (st' := T7.setTop (mkF m 29 #[oR a1, oR a2, oR a2] [(.int (0 : Int32))])) (st7) ?_
  refine own_go (st' := T7.setTop (mkF m 30 #[oR a1, oR a2, oR a2] [(.ref a2), (.int (0 : Int32))])) (fun _ k => XS.aloadN X7.here hx rfl (hb hby d11_29) rfl rfl k) ?_
  obtain ⟨T8, X8, e8, st8⟩ := getF X7 hx hZ hown (host := "") (Or.inl (own_hw hw 33)) Via.refl e7 pr8 (g := (mkF m 30 #[oR a1, oR a2, oR a2] [(.ref a2), (.int (0 : Int32))])) rfl rfl (hb hby d11_30)
  refine own_go (st' := T8.setTop (mkF m 33 #[oR a1, oR a2, oR a2] [(.int (0 : Int32)), (.int (0 : Int32))])) (st8) ?_
  have hc9 : (0 : Int32) = (0 : Int32) := by decide
  refine own_go (st' := T8.setTop (mkF m 36 #[oR a1, oR a2, oR a2] [])) (fun _ k => XS.icmpNo X8.here hx rfl (hb hby d11_33) rfl (teq hc9).2 k) ?_
  refine own_go (st' := T8.setTop (mkF m 37 #[oR a1, oR a2, oR a2] [(.ref a1)])) (fun _ k => XS.aloadN X8.here hx rfl (hb hby d11_36) rfl rfl k) ?_
  obtain ⟨T10, X10, e10, st10⟩ := getF X8 hx hZ hown (host := "") (Or.inl (own_hw hw 35)) Via.refl e8 pr4 (g := (mkF m 37 #[oR a1, oR a2, oR a2] [(.ref a1)])) rfl rfl (hb hby d11_37)
  refine own_go (st' := T10.setTop (mkF m 40 #[oR a1, oR a2, oR a2] [(.ref ax)])) (st10) ?_
  refine own_go (st' := T10.setTop (mkF m 41 #[oR a1, oR a2, oR a2] [(.ref a2), (.ref ax)])) (fun _ k => XS.aloadN X10.here hx rfl (hb hby d11_40) rfl rfl k) ?_
  obtain ⟨T11, X11, e11, st11⟩ := getF X10 hx hZ hown (host := "") (Or.inl (own_hw hw 35)) Via.refl e10 pr7 (g := (mkF m 41 #[oR a1, oR a2, oR a2] [(.ref a2), (.ref ax)])) rfl rfl (hb hby d11_41)
  refine own_go (st' := T11.setTop (mkF m 44 #[oR a1, oR a2, oR a2] [(.ref ay), (.ref ax)])) (st11) ?_
  obtain ⟨_, _, ⟨T12, LC12, kC12, nC12⟩, -, X12, ⟨Lc12, hQ12, lq12, yq12, zq12⟩, st12⟩ := Jvm.LawKit.callS X11 hx (y := oM4) hown (mvT hZ (own_hw hw 66)) (mvT hZ (own_hw hw 67)) (mvT hZ (own_hw hw 68)) (mvT hZ (own_hw hw 69)) (by decide) (backOf (W := 0) (rle_30 l Z a0 hw [] ax ka ay kb w0 w1 w2 h0 n0 (by omega) pr9 pr10) hZ (own_hw hw 69) (own_hw hw 68) (by decide) (by decide)) (g := (mkF m 44 #[oR a1, oR a2, oR a2] [(.ref ay), (.ref ax)])) rfl (by rw [hml]; rfl) (argsL := [(.ref ax), (.ref ay)]) (rest := []) (lenOf pd_4 rfl) rfl (by show 2 * 0 + _ ≤ _; exact Nat.le_of_eq rfl) (hb hby d11_44) (fun _ _ => ⟨rfl, e11, (by decide : 0 + 0 ≤ _), (by decide : 0 + 0 ≤ _)⟩)
  dsimp only [Pt.U, Pt.locs, Pt.cells, Pt.slots] at X12 lq12 yq12 zq12 st12 hQ12
  subst lq12 yq12 zq12
  obtain ⟨rfl, Nq12, eq12⟩ := hQ12
  have N12 := Fr.app N0 Nq12
  refine own_go (st' := T12.setTop (mkF m 47 #[oR a1, oR a2, oR a2] [(.int (0 : Int32))])) (fun t k => st12 t k) ?_
  have hc13 : (0 : Int32) = (0 : Int32) := by decide
  refine own_go (st' := T12.setTop (mkF m 54 #[oR a1, oR a2, oR a2] [])) (fun _ k => XS.ifYes X12.here hx rfl (pc0 := 47) (pc' := 54) rfl (hb hby d11_47) rfl ((if0 _ _).trans (teq hc13).1) (by decide) (by decide) k) ?_
  refine own_go (st' := T12.setTop (mkF m 55 #[oR a1, oR a2, oR a2] [(.int (0 : Int32))])) (fun _ k => XS.iconst X12.here hx rfl (hb hby d11_54) k) ?_
  obtain ⟨fs, hr, hrun, hended, hW, hsame⟩ := X12.leave (v := some (.int (0 : Int32))) (fun h => by rw [Bd.returns] at h; cases h)
  refine ⟨_, _, ?_, hP _ _ hrun hended ⟨_, _, rfl, ?_, ⟨_, rfl⟩, hW, hsame.mono (by decide) (by decide)⟩⟩
  · exact retN X12 hx (t := .boolean) Bd.returns (by simp) (hb hby d11_55) hr
  · show Qrse_30 Z a1 a2 zc ax ka ay kb w0 w1 w2 h0 n0 _ T12.heap _
    rw [eq12]
    exact ⟨rfl, N12, rfl⟩
theorem ef_rle_31 (m : MethodId) (x0 : Addr) (x1 : Addr) : entryFrame m #[(.ref x0), (.ref x1)] 3 = mkF m 0 #[.val (.ref x0), .val (.ref x1), .unset] [] := by first | (simp [entryFrame, mkF, argsToLocals, Value.category]; done) | rfl
def Qrle_31 (Z : State) (ax : Addr) (ka : ClassId) (ay : Addr) (kb : ClassId) (w0 : Int32) (w1 : Int32) (w2 : Int32) (z0 : Int32) (h0 : Heap) (n0 : Nat) (v : Option Value) (h : Heap) (L : List Loc) : Prop := (v = some (.int (0 : Int32))) ∧ (Fr n0 L) ∧ (h = h0)
set_option maxRecDepth 65536 in
set_option maxHeartbeats 40000000 in
theorem rle_31 (l : Launch) (Z : State) (a0 : Array Value) (hw : ∀ d ∈ tables_1, d.before a0 Z = true) (ws : List Jvm.Cond) (ax : Addr) (ka : ClassId) (ay : Addr) (kb : ClassId) (w0 : Int32) (w1 : Int32) (w2 : Int32) (z0 : Int32) (h0 : Heap) (n0 : Nat) (Z0 : n0 ≤ h0.size) (pr1 : Arv Z h0 ax ka .byte (3 : Int32) [(.int w0), (.int w1), (.int w2)] (.int (0 : Int32))) (pr2 : Arv Z h0 ay kb .byte (1 : Int32) [(.int z0)] (.int (0 : Int32))) :
    MetFree l oM4 (head1 (Jvm.Cond.code oM4 jdk_43_method_13_code 3 (some .boolean) :: ws) ({ frames := 0, cells := 0, slots := 0, locals := 0 } : Room)) (fun a U => a = #[(.ref ax), (.ref ay)] ∧ Z.Warmed39 U.vm ∧ U.heap = h0) (fun _ _ _ _ _ => True) (fun _ U o U' => ∃ v L, o = .returned v ∧ Qrle_31 Z ax ka ay kb w0 w1 w2 z0 h0 n0 v U'.heap L ∧ FrameEnd U o U' L ({ frames := 0, cells := 0, slots := 0, locals := 0 } : Room).cells ({ frames := 0, cells := 0, slots := 0, locals := 0 } : Room).slots) := by
  refine MetFree.of_bodySF (plainFor_of_name pn_12) hisR ?_
  intro p e s m args below meth c s₁ Bd hml0 hP0 hK
  obtain ⟨rfl, hZ, hh⟩ := hP0
  have hx := Bd.exec
  have hby := Bd.bytes
  have hml : c.maxLocals = 3 := hml0
  have hown : s.vm.findClass oS8 = some m.cls := findClass_of_methodNamed Bd.named
  have hnm := (name_of_methodNamed Bd.named Bd.method).1
  have X0 : Stand p l e ({ frames := 0, cells := 0, slots := 0, locals := 0 } : Room) s m #[(.ref ax), (.ref ay)] below meth c s₁ [] 0 0 := Stand.of_body Bd
  have e0 : s₁.heap = h0 := by rw [← hh, Bd.state]; rfl
  have N0 := Fr.nil n0
  suffices own_H : ∀ (P : State → Outcome → Prop), (∀ U o, U.status = .running → Ended U below o → (∃ v L, o = .returned v ∧ Qrle_31 Z ax ka ay kb w0 w1 w2 z0 h0 n0 v U.heap L ∧ FrameEnd s o U L ({ frames := 0, cells := 0, slots := 0, locals := 0 } : Room).cells ({ frames := 0, cells := 0, slots := 0, locals := 0 } : Room).slots) → P U o) → own_Go p.tables e below P (s₁.setTop (mkF m 0 #[oR ax, oR ay, .unset] [])) from own_go (fun _ k => castTop (ef_rle_31 m ax ay) k) (own_H _ (fun U o h1 h2 h3 => ⟨h1, h2, h3⟩))
  intro P hP
  have lt_ax : @LT.lt Nat _ ax h0.size := pr1.lt
  have lt_ay : @LT.lt Nat _ ay h0.size := pr2.lt
  refine own_go (st' := s₁.setTop (mkF m 1 #[oR ax, oR ay, .unset] [(.ref ax)])) (fun _ k => XS.aloadN X0.here hx rfl (hb hby d12_0) rfl rfl k) ?_
  obtain ⟨cl1, Ar1, -, S1, M1, -, -⟩ := id pr1
  refine own_go (st' := s₁.setTop (mkF m 2 #[oR ax, oR ay, .unset] [(.int (3 : Int32))])) (fun t k => X0.arraylength hx (by rw [e0]; exact Ar1.1) (State.isArrayOf_alike hZ.alike Ar1.2.1) (g := (mkF m 1 #[oR ax, oR ay, .unset] [(.ref ax)])) rfl rfl (hb hby d12_1) t (by rw [len_of S1 M1]; exact k)) ?_
  refine own_go (st' := s₁.setTop (mkF m 3 #[oR ax, oR ay, .unset] [(.ref ay), (.int (3 : Int32))])) (fun _ k => XS.aloadN X0.here hx rfl (hb hby d12_2) rfl rfl k) ?_
  obtain ⟨cl2, Ar2, -, S2, M2, -, -⟩ := id pr2
  refine own_go (st' := s₁.setTop (mkF m 4 #[oR ax, oR ay, .unset] [(.int (1 : Int32)), (.int (3 : Int32))])) (fun t k => X0.arraylength hx (by rw [e0]; exact Ar2.1) (State.isArrayOf_alike hZ.alike Ar2.2.1) (g := (mkF m 3 #[oR ax, oR ay, .unset] [(.ref ay), (.int (3 : Int32))])) rfl rfl (hb hby d12_3) t (by rw [len_of S2 M2]; exact k)) ?_
  have hc3 : ¬ ((3 : Int32) = (1 : Int32)) := by decide
  refine own_go (st' := s₁.setTop (mkF m 34 #[oR ax, oR ay, .unset] [])) (fun _ k => XS.icmpYes X0.here hx rfl (pc0 := 4) (pc' := 34) rfl (hb hby d12_4) rfl (feq hc3).2 (by decide) (by decide) k) ?_
  refine own_go (st' := s₁.setTop (mkF m 35 #[oR ax, oR ay, .unset] [(.int (0 : Int32))])) (fun _ k => XS.iconst X0.here hx rfl (hb hby d12_34) k) ?_
  obtain ⟨fs, hr, hrun, hended, hW, hsame⟩ := X0.leave (v := some (.int (0 : Int32))) (fun h => by rw [Bd.returns] at h; cases h)
  refine ⟨_, _, ?_, hP _ _ hrun hended ⟨_, _, rfl, ?_, ⟨_, rfl⟩, hW, hsame.mono (by decide) (by decide)⟩⟩
  · exact retN X0 hx (t := .boolean) Bd.returns (by simp) (hb hby d12_35) hr
  · show Qrle_31 Z ax ka ay kb w0 w1 w2 z0 h0 n0 _ s₁.heap _
    rw [e0]
    exact ⟨rfl, N0, rfl⟩
theorem ef_rse_31 (m : MethodId) (x0 : Addr) (x1 : Addr) : entryFrame m #[(.ref x0), (.ref x1)] 3 = mkF m 0 #[.val (.ref x0), .val (.ref x1), .unset] [] := by first | (simp [entryFrame, mkF, argsToLocals, Value.category]; done) | rfl
def Qrse_31 (Z : State) (a1 : Addr) (a2 : Addr) (zc : Int32) (ax : Addr) (ka : ClassId) (ay : Addr) (kb : ClassId) (w0 : Int32) (w1 : Int32) (w2 : Int32) (z0 : Int32) (h0 : Heap) (n0 : Nat) (v : Option Value) (h : Heap) (L : List Loc) : Prop := (v = some (.int (0 : Int32))) ∧ (Fr n0 L) ∧ (h = h0)
set_option maxRecDepth 65536 in
set_option maxHeartbeats 40000000 in
theorem rse_31 (l : Launch) (Z : State) (a0 : Array Value) (hw : ∀ d ∈ tables_1, d.before a0 Z = true) (ws : List Jvm.Cond) (a1 : Addr) (a2 : Addr) (zc : Int32) (ax : Addr) (ka : ClassId) (ay : Addr) (kb : ClassId) (w0 : Int32) (w1 : Int32) (w2 : Int32) (z0 : Int32) (h0 : Heap) (n0 : Nat) (Z0 : n0 ≤ h0.size) (pr1 : Sta Z h0 oS0 oS3 "Z" (.int zc)) (hzc : ¬ zc = (0 : Int32)) (pr2 : @Ne Nat a1 a2) (pr3 : Exa Z h0 a1 oS0) (pr4 : Fld Z h0 a1 oS0 "value" "[B" (.ref ax)) (pr5 : Fld Z h0 a1 oS0 "coder" "B" (.int (0 : Int32))) (pr6 : Exa Z h0 a2 oS0) (pr7 : Fld Z h0 a2 oS0 "value" "[B" (.ref ay)) (pr8 : Fld Z h0 a2 oS0 "coder" "B" (.int (0 : Int32))) (pr9 : Arv Z h0 ax ka .byte (3 : Int32) [(.int w0), (.int w1), (.int w2)] (.int (0 : Int32))) (pr10 : Arv Z h0 ay kb .byte (1 : Int32) [(.int z0)] (.int (0 : Int32))) :
    MetFree l oM0 (head1 (Jvm.Cond.code oM0 jdk_42_method_66_code 3 (some .boolean) :: ws) ({ frames := 1, cells := 0, slots := 0, locals := 14 } : Room)) (fun a U => a = #[(.ref a1), (.ref a2)] ∧ Z.Warmed39 U.vm ∧ U.heap = h0) (fun _ _ _ _ _ => True) (fun _ U o U' => ∃ v L, o = .returned v ∧ Qrse_31 Z a1 a2 zc ax ka ay kb w0 w1 w2 z0 h0 n0 v U'.heap L ∧ FrameEnd U o U' L ({ frames := 1, cells := 0, slots := 0, locals := 14 } : Room).cells ({ frames := 1, cells := 0, slots := 0, locals := 14 } : Room).slots) := by
  refine MetFree.of_bodySF (plainFor_of_name pn_11) hisR ?_
  intro p e s m args below meth c s₁ Bd hml0 hP0 hK
  obtain ⟨rfl, hZ, hh⟩ := hP0
  have hx := Bd.exec
  have hby := Bd.bytes
  have hml : c.maxLocals = 3 := hml0
  have hown : s.vm.findClass oS0 = some m.cls := findClass_of_methodNamed Bd.named
  have hnm := (name_of_methodNamed Bd.named Bd.method).1
  have X0 : Stand p l e ({ frames := 1, cells := 0, slots := 0, locals := 14 } : Room) s m #[(.ref a1), (.ref a2)] below meth c s₁ [] 0 0 := Stand.of_body Bd
  have e0 : s₁.heap = h0 := by rw [← hh, Bd.state]; rfl
  have N0 := Fr.nil n0
  suffices own_H : ∀ (P : State → Outcome → Prop), (∀ U o, U.status = .running → Ended U below o → (∃ v L, o = .returned v ∧ Qrse_31 Z a1 a2 zc ax ka ay kb w0 w1 w2 z0 h0 n0 v U.heap L ∧ FrameEnd s o U L ({ frames := 1, cells := 0, slots := 0, locals := 14 } : Room).cells ({ frames := 1, cells := 0, slots := 0, locals := 14 } : Room).slots) → P U o) → own_Go p.tables e below P (s₁.setTop (mkF m 0 #[oR a1, oR a2, .unset] [])) from own_go (fun _ k => castTop (ef_rse_31 m a1 a2) k) (own_H _ (fun U o h1 h2 h3 => ⟨h1, h2, h3⟩))
  intro P hP
  have lt_a1 : @LT.lt Nat _ a1 h0.size := pr3.lt
  have lt_a2 : @LT.lt Nat _ a2 h0.size := pr6.lt
  have lt_ax : @LT.lt Nat _ ax h0.size := pr9.lt
  have lt_ay : @LT.lt Nat _ ay h0.size := pr10.lt
  refine own_go (st' := s₁.setTop (mkF m 1 #[oR a1, oR a2, .unset] [(.ref a1)])) (fun _ k => XS.aloadN X0.here hx rfl (hb hby d11_0) rfl rfl k) ?_
  refine own_go (st' := s₁.setTop (mkF m 2 #[oR a1, oR a2, .unset] [(.ref a2), (.ref a1)])) (fun _ k => XS.aloadN X0.here hx rfl (hb hby d11_1) rfl rfl k) ?_
  have hc1 : ¬ (a1 = a2) := (fun q_ => (own_ne' (by assumption)) q_)
  refine own_go (st' := s₁.setTop (mkF m 7 #[oR a1, oR a2, .unset] [])) (fun _ k => Jvm.RoadKit.acmp (g := (mkF m 2 #[oR a1, oR a2, .unset] [(.ref a2), (.ref a1)])) X0 hx rfl rfl rfl (pc0 := 2) (pc' := 7) (same := false) rfl (hb hby d11_2) rfl (decide_eq_false fun q_ => hc1 (Value.ref.inj q_)) (by decide) (by decide) k) ?_
  refine own_go (st' := s₁.setTop (mkF m 8 #[oR a1, oR a2, .unset] [(.ref a2)])) (fun _ k => XS.aloadN X0.here hx rfl (hb hby d11_7) rfl rfl k) ?_
  obtain ⟨T2, X2, e2, st2⟩ := instY X0 hx hZ hown (own_hw hw 65) e0 (Ins.self pr6) (g := (mkF m 8 #[oR a1, oR a2, .unset] [(.ref a2)])) rfl rfl (hb hby d11_8)
  refine own_go (st' := T2.setTop (mkF m 11 #[oR a1, oR a2, .unset] [(.int (1 : Int32))])) (st2) ?_
  have hc3 : ¬ ((1 : Int32) = (0 : Int32)) := by decide
  refine own_go (st' := T2.setTop (mkF m 14 #[oR a1, oR a2, .unset] [])) (fun _ k => XS.ifNo X2.here hx rfl (hb hby d11_11) rfl ((if0 _ _).trans (feq hc3).1) k) ?_
  refine own_go (st' := T2.setTop (mkF m 15 #[oR a1, oR a2, .unset] [(.ref a2)])) (fun _ k => XS.aloadN X2.here hx rfl (hb hby d11_14) rfl rfl k) ?_
  obtain ⟨T4, X4, e4, st4⟩ := castY X2 hx hZ hown (own_hw hw 65) e2 (Ins.self pr6) (g := (mkF m 15 #[oR a1, oR a2, .unset] [(.ref a2)])) rfl rfl (hb hby d11_15)
  refine own_go (st' := T4.setTop (mkF m 18 #[oR a1, oR a2, .unset] [(.ref a2)])) (st4) ?_
  refine own_go (st' := T4.setTop (mkF m 19 #[oR a1, oR a2, oR a2] [])) (fun _ k => XS.astoreN X4.here hx rfl (hb hby d11_18) rfl rfl (l' := #[oR a1, oR a2, oR a2]) rfl k) ?_
  obtain ⟨T5, X5, e5, st5⟩ := getS2 X4 hx hZ hown (host := "") (Or.inl (own_hw hw 21)) Via.refl e4 pr1 (g := (mkF m 19 #[oR a1, oR a2, oR a2] [])) rfl (hb hby d11_19)
  refine own_go (st' := T5.setTop (mkF m 22 #[oR a1, oR a2, oR a2] [(.int zc)])) (st5) ?_
  have hc6 : ¬ (zc = (0 : Int32)) := hzc
  refine own_go (st' := T5.setTop (mkF m 25 #[oR a1, oR a2, oR a2] [])) (fun _ k => XS.ifNo X5.here hx rfl (hb hby d11_22) rfl ((if0 _ _).trans (feq hc6).1) k) ?_
  refine own_go (st' := T5.setTop (mkF m 26 #[oR a1, oR a2, oR a2] [(.ref a1)])) (fun _ k => XS.aloadN X5.here hx rfl (hb hby d11_25) rfl rfl k) ?_
  obtain ⟨T7, X7, e7, st7⟩ := getF X5 hx hZ hown (host := "") (Or.inl (own_hw hw 33)) Via.refl e5 pr5 (g := (mkF m 26 #[oR a1, oR a2, oR a2] [(.ref a1)])) rfl rfl (hb hby d11_26)
  refine own_go (st' := T7.setTop (mkF m 29 #[oR a1, oR a2, oR a2] [(.int (0 : Int32))])) (st7) ?_
  refine own_go (st' := T7.setTop (mkF m 30 #[oR a1, oR a2, oR a2] [(.ref a2), (.int (0 : Int32))])) (fun _ k => XS.aloadN X7.here hx rfl (hb hby d11_29) rfl rfl k) ?_
  obtain ⟨T8, X8, e8, st8⟩ := getF X7 hx hZ hown (host := "") (Or.inl (own_hw hw 33)) Via.refl e7 pr8 (g := (mkF m 30 #[oR a1, oR a2, oR a2] [(.ref a2), (.int (0 : Int32))])) rfl rfl (hb hby d11_30)
  refine own_go (st' := T8.setTop (mkF m 33 #[oR a1, oR a2, oR a2] [(.int (0 : Int32)), (.int (0 : Int32))])) (st8) ?_
  have hc9 : (0 : Int32) = (0 : Int32) := by decide
  refine own_go (st' := T8.setTop (mkF m 36 #[oR a1, oR a2, oR a2] [])) (fun _ k => XS.icmpNo X8.here hx rfl (hb hby d11_33) rfl (teq hc9).2 k) ?_
  refine own_go (st' := T8.setTop (mkF m 37 #[oR a1, oR a2, oR a2] [(.ref a1)])) (fun _ k => XS.aloadN X8.here hx rfl (hb hby d11_36) rfl rfl k) ?_
  obtain ⟨T10, X10, e10, st10⟩ := getF X8 hx hZ hown (host := "") (Or.inl (own_hw hw 35)) Via.refl e8 pr4 (g := (mkF m 37 #[oR a1, oR a2, oR a2] [(.ref a1)])) rfl rfl (hb hby d11_37)
  refine own_go (st' := T10.setTop (mkF m 40 #[oR a1, oR a2, oR a2] [(.ref ax)])) (st10) ?_
  refine own_go (st' := T10.setTop (mkF m 41 #[oR a1, oR a2, oR a2] [(.ref a2), (.ref ax)])) (fun _ k => XS.aloadN X10.here hx rfl (hb hby d11_40) rfl rfl k) ?_
  obtain ⟨T11, X11, e11, st11⟩ := getF X10 hx hZ hown (host := "") (Or.inl (own_hw hw 35)) Via.refl e10 pr7 (g := (mkF m 41 #[oR a1, oR a2, oR a2] [(.ref a2), (.ref ax)])) rfl rfl (hb hby d11_41)
  refine own_go (st' := T11.setTop (mkF m 44 #[oR a1, oR a2, oR a2] [(.ref ay), (.ref ax)])) (st11) ?_
  obtain ⟨_, _, ⟨T12, LC12, kC12, nC12⟩, -, X12, ⟨Lc12, hQ12, lq12, yq12, zq12⟩, st12⟩ := Jvm.LawKit.callS X11 hx (y := oM4) hown (mvT hZ (own_hw hw 66)) (mvT hZ (own_hw hw 67)) (mvT hZ (own_hw hw 68)) (mvT hZ (own_hw hw 69)) (by decide) (backOf (W := 0) (rle_31 l Z a0 hw [] ax ka ay kb w0 w1 w2 z0 h0 n0 (by omega) pr9 pr10) hZ (own_hw hw 69) (own_hw hw 68) (by decide) (by decide)) (g := (mkF m 44 #[oR a1, oR a2, oR a2] [(.ref ay), (.ref ax)])) rfl (by rw [hml]; rfl) (argsL := [(.ref ax), (.ref ay)]) (rest := []) (lenOf pd_4 rfl) rfl (by show 2 * 0 + _ ≤ _; exact Nat.le_of_eq rfl) (hb hby d11_44) (fun _ _ => ⟨rfl, e11, (by decide : 0 + 0 ≤ _), (by decide : 0 + 0 ≤ _)⟩)
  dsimp only [Pt.U, Pt.locs, Pt.cells, Pt.slots] at X12 lq12 yq12 zq12 st12 hQ12
  subst lq12 yq12 zq12
  obtain ⟨rfl, Nq12, eq12⟩ := hQ12
  have N12 := Fr.app N0 Nq12
  refine own_go (st' := T12.setTop (mkF m 47 #[oR a1, oR a2, oR a2] [(.int (0 : Int32))])) (fun t k => st12 t k) ?_
  have hc13 : (0 : Int32) = (0 : Int32) := by decide
  refine own_go (st' := T12.setTop (mkF m 54 #[oR a1, oR a2, oR a2] [])) (fun _ k => XS.ifYes X12.here hx rfl (pc0 := 47) (pc' := 54) rfl (hb hby d11_47) rfl ((if0 _ _).trans (teq hc13).1) (by decide) (by decide) k) ?_
  refine own_go (st' := T12.setTop (mkF m 55 #[oR a1, oR a2, oR a2] [(.int (0 : Int32))])) (fun _ k => XS.iconst X12.here hx rfl (hb hby d11_54) k) ?_
  obtain ⟨fs, hr, hrun, hended, hW, hsame⟩ := X12.leave (v := some (.int (0 : Int32))) (fun h => by rw [Bd.returns] at h; cases h)
  refine ⟨_, _, ?_, hP _ _ hrun hended ⟨_, _, rfl, ?_, ⟨_, rfl⟩, hW, hsame.mono (by decide) (by decide)⟩⟩
  · exact retN X12 hx (t := .boolean) Bd.returns (by simp) (hb hby d11_55) hr
  · show Qrse_31 Z a1 a2 zc ax ka ay kb w0 w1 w2 z0 h0 n0 _ T12.heap _
    rw [eq12]
    exact ⟨rfl, N12, rfl⟩
theorem ef_rle_32 (m : MethodId) (x0 : Addr) (x1 : Addr) : entryFrame m #[(.ref x0), (.ref x1)] 3 = mkF m 0 #[.val (.ref x0), .val (.ref x1), .unset] [] := by first | (simp [entryFrame, mkF, argsToLocals, Value.category]; done) | rfl
def Qrle_32 (Z : State) (ax : Addr) (ka : ClassId) (ay : Addr) (kb : ClassId) (w0 : Int32) (w1 : Int32) (w2 : Int32) (z0 : Int32) (z1 : Int32) (h0 : Heap) (n0 : Nat) (v : Option Value) (h : Heap) (L : List Loc) : Prop := (v = some (.int (0 : Int32))) ∧ (Fr n0 L) ∧ (h = h0)
set_option maxRecDepth 65536 in
set_option maxHeartbeats 40000000 in
theorem rle_32 (l : Launch) (Z : State) (a0 : Array Value) (hw : ∀ d ∈ tables_1, d.before a0 Z = true) (ws : List Jvm.Cond) (ax : Addr) (ka : ClassId) (ay : Addr) (kb : ClassId) (w0 : Int32) (w1 : Int32) (w2 : Int32) (z0 : Int32) (z1 : Int32) (h0 : Heap) (n0 : Nat) (Z0 : n0 ≤ h0.size) (pr1 : Arv Z h0 ax ka .byte (3 : Int32) [(.int w0), (.int w1), (.int w2)] (.int (0 : Int32))) (pr2 : Arv Z h0 ay kb .byte (2 : Int32) [(.int z0), (.int z1)] (.int (0 : Int32))) :
    MetFree l oM4 (head1 (Jvm.Cond.code oM4 jdk_43_method_13_code 3 (some .boolean) :: ws) ({ frames := 0, cells := 0, slots := 0, locals := 0 } : Room)) (fun a U => a = #[(.ref ax), (.ref ay)] ∧ Z.Warmed39 U.vm ∧ U.heap = h0) (fun _ _ _ _ _ => True) (fun _ U o U' => ∃ v L, o = .returned v ∧ Qrle_32 Z ax ka ay kb w0 w1 w2 z0 z1 h0 n0 v U'.heap L ∧ FrameEnd U o U' L ({ frames := 0, cells := 0, slots := 0, locals := 0 } : Room).cells ({ frames := 0, cells := 0, slots := 0, locals := 0 } : Room).slots) := by
  refine MetFree.of_bodySF (plainFor_of_name pn_12) hisR ?_
  intro p e s m args below meth c s₁ Bd hml0 hP0 hK
  obtain ⟨rfl, hZ, hh⟩ := hP0
  have hx := Bd.exec
  have hby := Bd.bytes
  have hml : c.maxLocals = 3 := hml0
  have hown : s.vm.findClass oS8 = some m.cls := findClass_of_methodNamed Bd.named
  have hnm := (name_of_methodNamed Bd.named Bd.method).1
  have X0 : Stand p l e ({ frames := 0, cells := 0, slots := 0, locals := 0 } : Room) s m #[(.ref ax), (.ref ay)] below meth c s₁ [] 0 0 := Stand.of_body Bd
  have e0 : s₁.heap = h0 := by rw [← hh, Bd.state]; rfl
  have N0 := Fr.nil n0
  suffices own_H : ∀ (P : State → Outcome → Prop), (∀ U o, U.status = .running → Ended U below o → (∃ v L, o = .returned v ∧ Qrle_32 Z ax ka ay kb w0 w1 w2 z0 z1 h0 n0 v U.heap L ∧ FrameEnd s o U L ({ frames := 0, cells := 0, slots := 0, locals := 0 } : Room).cells ({ frames := 0, cells := 0, slots := 0, locals := 0 } : Room).slots) → P U o) → own_Go p.tables e below P (s₁.setTop (mkF m 0 #[oR ax, oR ay, .unset] [])) from own_go (fun _ k => castTop (ef_rle_32 m ax ay) k) (own_H _ (fun U o h1 h2 h3 => ⟨h1, h2, h3⟩))
  intro P hP
  have lt_ax : @LT.lt Nat _ ax h0.size := pr1.lt
  have lt_ay : @LT.lt Nat _ ay h0.size := pr2.lt
  refine own_go (st' := s₁.setTop (mkF m 1 #[oR ax, oR ay, .unset] [(.ref ax)])) (fun _ k => XS.aloadN X0.here hx rfl (hb hby d12_0) rfl rfl k) ?_
  obtain ⟨cl1, Ar1, -, S1, M1, -, -⟩ := id pr1
  refine own_go (st' := s₁.setTop (mkF m 2 #[oR ax, oR ay, .unset] [(.int (3 : Int32))])) (fun t k => X0.arraylength hx (by rw [e0]; exact Ar1.1) (State.isArrayOf_alike hZ.alike Ar1.2.1) (g := (mkF m 1 #[oR ax, oR ay, .unset] [(.ref ax)])) rfl rfl (hb hby d12_1) t (by rw [len_of S1 M1]; exact k)) ?_
  refine own_go (st' := s₁.setTop (mkF m 3 #[oR ax, oR ay, .unset] [(.ref ay), (.int (3 : Int32))])) (fun _ k => XS.aloadN X0.here hx rfl (hb hby d12_2) rfl rfl k) ?_
  obtain ⟨cl2, Ar2, -, S2, M2, -, -⟩ := id pr2
  refine own_go (st' := s₁.setTop (mkF m 4 #[oR ax, oR ay, .unset] [(.int (2 : Int32)), (.int (3 : Int32))])) (fun t k => X0.arraylength hx (by rw [e0]; exact Ar2.1) (State.isArrayOf_alike hZ.alike Ar2.2.1) (g := (mkF m 3 #[oR ax, oR ay, .unset] [(.ref ay), (.int (3 : Int32))])) rfl rfl (hb hby d12_3) t (by rw [len_of S2 M2]; exact k)) ?_
  have hc3 : ¬ ((3 : Int32) = (2 : Int32)) := by decide
  refine own_go (st' := s₁.setTop (mkF m 34 #[oR ax, oR ay, .unset] [])) (fun _ k => XS.icmpYes X0.here hx rfl (pc0 := 4) (pc' := 34) rfl (hb hby d12_4) rfl (feq hc3).2 (by decide) (by decide) k) ?_
  refine own_go (st' := s₁.setTop (mkF m 35 #[oR ax, oR ay, .unset] [(.int (0 : Int32))])) (fun _ k => XS.iconst X0.here hx rfl (hb hby d12_34) k) ?_
  obtain ⟨fs, hr, hrun, hended, hW, hsame⟩ := X0.leave (v := some (.int (0 : Int32))) (fun h => by rw [Bd.returns] at h; cases h)
  refine ⟨_, _, ?_, hP _ _ hrun hended ⟨_, _, rfl, ?_, ⟨_, rfl⟩, hW, hsame.mono (by decide) (by decide)⟩⟩
  · exact retN X0 hx (t := .boolean) Bd.returns (by simp) (hb hby d12_35) hr
  · show Qrle_32 Z ax ka ay kb w0 w1 w2 z0 z1 h0 n0 _ s₁.heap _
    rw [e0]
    exact ⟨rfl, N0, rfl⟩
theorem ef_rse_32 (m : MethodId) (x0 : Addr) (x1 : Addr) : entryFrame m #[(.ref x0), (.ref x1)] 3 = mkF m 0 #[.val (.ref x0), .val (.ref x1), .unset] [] := by first | (simp [entryFrame, mkF, argsToLocals, Value.category]; done) | rfl
def Qrse_32 (Z : State) (a1 : Addr) (a2 : Addr) (zc : Int32) (ax : Addr) (ka : ClassId) (ay : Addr) (kb : ClassId) (w0 : Int32) (w1 : Int32) (w2 : Int32) (z0 : Int32) (z1 : Int32) (h0 : Heap) (n0 : Nat) (v : Option Value) (h : Heap) (L : List Loc) : Prop := (v = some (.int (0 : Int32))) ∧ (Fr n0 L) ∧ (h = h0)
set_option maxRecDepth 65536 in
set_option maxHeartbeats 40000000 in
theorem rse_32 (l : Launch) (Z : State) (a0 : Array Value) (hw : ∀ d ∈ tables_1, d.before a0 Z = true) (ws : List Jvm.Cond) (a1 : Addr) (a2 : Addr) (zc : Int32) (ax : Addr) (ka : ClassId) (ay : Addr) (kb : ClassId) (w0 : Int32) (w1 : Int32) (w2 : Int32) (z0 : Int32) (z1 : Int32) (h0 : Heap) (n0 : Nat) (Z0 : n0 ≤ h0.size) (pr1 : Sta Z h0 oS0 oS3 "Z" (.int zc)) (hzc : ¬ zc = (0 : Int32)) (pr2 : @Ne Nat a1 a2) (pr3 : Exa Z h0 a1 oS0) (pr4 : Fld Z h0 a1 oS0 "value" "[B" (.ref ax)) (pr5 : Fld Z h0 a1 oS0 "coder" "B" (.int (0 : Int32))) (pr6 : Exa Z h0 a2 oS0) (pr7 : Fld Z h0 a2 oS0 "value" "[B" (.ref ay)) (pr8 : Fld Z h0 a2 oS0 "coder" "B" (.int (0 : Int32))) (pr9 : Arv Z h0 ax ka .byte (3 : Int32) [(.int w0), (.int w1), (.int w2)] (.int (0 : Int32))) (pr10 : Arv Z h0 ay kb .byte (2 : Int32) [(.int z0), (.int z1)] (.int (0 : Int32))) :
    MetFree l oM0 (head1 (Jvm.Cond.code oM0 jdk_42_method_66_code 3 (some .boolean) :: ws) ({ frames := 1, cells := 0, slots := 0, locals := 14 } : Room)) (fun a U => a = #[(.ref a1), (.ref a2)] ∧ Z.Warmed39 U.vm ∧ U.heap = h0) (fun _ _ _ _ _ => True) (fun _ U o U' => ∃ v L, o = .returned v ∧ Qrse_32 Z a1 a2 zc ax ka ay kb w0 w1 w2 z0 z1 h0 n0 v U'.heap L ∧ FrameEnd U o U' L ({ frames := 1, cells := 0, slots := 0, locals := 14 } : Room).cells ({ frames := 1, cells := 0, slots := 0, locals := 14 } : Room).slots) := by
  refine MetFree.of_bodySF (plainFor_of_name pn_11) hisR ?_
  intro p e s m args below meth c s₁ Bd hml0 hP0 hK
  obtain ⟨rfl, hZ, hh⟩ := hP0
  have hx := Bd.exec
  have hby := Bd.bytes
  have hml : c.maxLocals = 3 := hml0
  have hown : s.vm.findClass oS0 = some m.cls := findClass_of_methodNamed Bd.named
  have hnm := (name_of_methodNamed Bd.named Bd.method).1
  have X0 : Stand p l e ({ frames := 1, cells := 0, slots := 0, locals := 14 } : Room) s m #[(.ref a1), (.ref a2)] below meth c s₁ [] 0 0 := Stand.of_body Bd
  have e0 : s₁.heap = h0 := by rw [← hh, Bd.state]; rfl
  have N0 := Fr.nil n0
  suffices own_H : ∀ (P : State → Outcome → Prop), (∀ U o, U.status = .running → Ended U below o → (∃ v L, o = .returned v ∧ Qrse_32 Z a1 a2 zc ax ka ay kb w0 w1 w2 z0 z1 h0 n0 v U.heap L ∧ FrameEnd s o U L ({ frames := 1, cells := 0, slots := 0, locals := 14 } : Room).cells ({ frames := 1, cells := 0, slots := 0, locals := 14 } : Room).slots) → P U o) → own_Go p.tables e below P (s₁.setTop (mkF m 0 #[oR a1, oR a2, .unset] [])) from own_go (fun _ k => castTop (ef_rse_32 m a1 a2) k) (own_H _ (fun U o h1 h2 h3 => ⟨h1, h2, h3⟩))
  intro P hP
  have lt_a1 : @LT.lt Nat _ a1 h0.size := pr3.lt
  have lt_a2 : @LT.lt Nat _ a2 h0.size := pr6.lt
  have lt_ax : @LT.lt Nat _ ax h0.size := pr9.lt
  have lt_ay : @LT.lt Nat _ ay h0.size := pr10.lt
  refine own_go (st' := s₁.setTop (mkF m 1 #[oR a1, oR a2, .unset] [(.ref a1)])) (fun _ k => XS.aloadN X0.here hx rfl (hb hby d11_0) rfl rfl k) ?_
  refine own_go (st' := s₁.setTop (mkF m 2 #[oR a1, oR a2, .unset] [(.ref a2), (.ref a1)])) (fun _ k => XS.aloadN X0.here hx rfl (hb hby d11_1) rfl rfl k) ?_
  have hc1 : ¬ (a1 = a2) := (fun q_ => (own_ne' (by assumption)) q_)
  refine own_go (st' := s₁.setTop (mkF m 7 #[oR a1, oR a2, .unset] [])) (fun _ k => Jvm.RoadKit.acmp (g := (mkF m 2 #[oR a1, oR a2, .unset] [(.ref a2), (.ref a1)])) X0 hx rfl rfl rfl (pc0 := 2) (pc' := 7) (same := false) rfl (hb hby d11_2) rfl (decide_eq_false fun q_ => hc1 (Value.ref.inj q_)) (by decide) (by decide) k) ?_
  refine own_go (st' := s₁.setTop (mkF m 8 #[oR a1, oR a2, .unset] [(.ref a2)])) (fun _ k => XS.aloadN X0.here hx rfl (hb hby d11_7) rfl rfl k) ?_
  obtain ⟨T2, X2, e2, st2⟩ := instY X0 hx hZ hown (own_hw hw 65) e0 (Ins.self pr6) (g := (mkF m 8 #[oR a1, oR a2, .unset] [(.ref a2)])) rfl rfl (hb hby d11_8)
  refine own_go (st' := T2.setTop (mkF m 11 #[oR a1, oR a2, .unset] [(.int (1 : Int32))])) (st2) ?_
  have hc3 : ¬ ((1 : Int32) = (0 : Int32)) := by decide
  refine own_go (st' := T2.setTop (mkF m 14 #[oR a1, oR a2, .unset] [])) (fun _ k => XS.ifNo X2.here hx rfl (hb hby d11_11) rfl ((if0 _ _).trans (feq hc3).1) k) ?_
  refine own_go (st' := T2.setTop (mkF m 15 #[oR a1, oR a2, .unset] [(.ref a2)])) (fun _ k => XS.aloadN X2.here hx rfl (hb hby d11_14) rfl rfl k) ?_
  obtain ⟨T4, X4, e4, st4⟩ := castY X2 hx hZ hown (own_hw hw 65) e2 (Ins.self pr6) (g := (mkF m 15 #[oR a1, oR a2, .unset] [(.ref a2)])) rfl rfl (hb hby d11_15)
  refine own_go (st' := T4.setTop (mkF m 18 #[oR a1, oR a2, .unset] [(.ref a2)])) (st4) ?_
  refine own_go (st' := T4.setTop (mkF m 19 #[oR a1, oR a2, oR a2] [])) (fun _ k => XS.astoreN X4.here hx rfl (hb hby d11_18) rfl rfl (l' := #[oR a1, oR a2, oR a2]) rfl k) ?_
  obtain ⟨T5, X5, e5, st5⟩ := getS2 X4 hx hZ hown (host := "") (Or.inl (own_hw hw 21)) Via.refl e4 pr1 (g := (mkF m 19 #[oR a1, oR a2, oR a2] [])) rfl (hb hby d11_19)
  refine own_go (st' := T5.setTop (mkF m 22 #[oR a1, oR a2, oR a2] [(.int zc)])) (st5) ?_
  have hc6 : ¬ (zc = (0 : Int32)) := hzc
  refine own_go (st' := T5.setTop (mkF m 25 #[oR a1, oR a2, oR a2] [])) (fun _ k => XS.ifNo X5.here hx rfl (hb hby d11_22) rfl ((if0 _ _).trans (feq hc6).1) k) ?_
  refine own_go (st' := T5.setTop (mkF m 26 #[oR a1, oR a2, oR a2] [(.ref a1)])) (fun _ k => XS.aloadN X5.here hx rfl (hb hby d11_25) rfl rfl k) ?_
  obtain ⟨T7, X7, e7, st7⟩ := getF X5 hx hZ hown (host := "") (Or.inl (own_hw hw 33)) Via.refl e5 pr5 (g := (mkF m 26 #[oR a1, oR a2, oR a2] [(.ref a1)])) rfl rfl (hb hby d11_26)
  refine own_go (st' := T7.setTop (mkF m 29 #[oR a1, oR a2, oR a2] [(.int (0 : Int32))])) (st7) ?_
  refine own_go (st' := T7.setTop (mkF m 30 #[oR a1, oR a2, oR a2] [(.ref a2), (.int (0 : Int32))])) (fun _ k => XS.aloadN X7.here hx rfl (hb hby d11_29) rfl rfl k) ?_
  obtain ⟨T8, X8, e8, st8⟩ := getF X7 hx hZ hown (host := "") (Or.inl (own_hw hw 33)) Via.refl e7 pr8 (g := (mkF m 30 #[oR a1, oR a2, oR a2] [(.ref a2), (.int (0 : Int32))])) rfl rfl (hb hby d11_30)
  refine own_go (st' := T8.setTop (mkF m 33 #[oR a1, oR a2, oR a2] [(.int (0 : Int32)), (.int (0 : Int32))])) (st8) ?_
  have hc9 : (0 : Int32) = (0 : Int32) := by decide
  refine own_go (st' := T8.setTop (mkF m 36 #[oR a1, oR a2, oR a2] [])) (fun _ k => XS.icmpNo X8.here hx rfl (hb hby d11_33) rfl (teq hc9).2 k) ?_
  refine own_go (st' := T8.setTop (mkF m 37 #[oR a1, oR a2, oR a2] [(.ref a1)])) (fun _ k => XS.aloadN X8.here hx rfl (hb hby d11_36) rfl rfl k) ?_
  obtain ⟨T10, X10, e10, st10⟩ := getF X8 hx hZ hown (host := "") (Or.inl (own_hw hw 35)) Via.refl e8 pr4 (g := (mkF m 37 #[oR a1, oR a2, oR a2] [(.ref a1)])) rfl rfl (hb hby d11_37)
  refine own_go (st' := T10.setTop (mkF m 40 #[oR a1, oR a2, oR a2] [(.ref ax)])) (st10) ?_
  refine own_go (st' := T10.setTop (mkF m 41 #[oR a1, oR a2, oR a2] [(.ref a2), (.ref ax)])) (fun _ k => XS.aloadN X10.here hx rfl (hb hby d11_40) rfl rfl k) ?_
  obtain ⟨T11, X11, e11, st11⟩ := getF X10 hx hZ hown (host := "") (Or.inl (own_hw hw 35)) Via.refl e10 pr7 (g := (mkF m 41 #[oR a1, oR a2, oR a2] [(.ref a2), (.ref ax)])) rfl rfl (hb hby d11_41)
  refine own_go (st' := T11.setTop (mkF m 44 #[oR a1, oR a2, oR a2] [(.ref ay), (.ref ax)])) (st11) ?_
  obtain ⟨_, _, ⟨T12, LC12, kC12, nC12⟩, -, X12, ⟨Lc12, hQ12, lq12, yq12, zq12⟩, st12⟩ := Jvm.LawKit.callS X11 hx (y := oM4) hown (mvT hZ (own_hw hw 66)) (mvT hZ (own_hw hw 67)) (mvT hZ (own_hw hw 68)) (mvT hZ (own_hw hw 69)) (by decide) (backOf (W := 0) (rle_32 l Z a0 hw [] ax ka ay kb w0 w1 w2 z0 z1 h0 n0 (by omega) pr9 pr10) hZ (own_hw hw 69) (own_hw hw 68) (by decide) (by decide)) (g := (mkF m 44 #[oR a1, oR a2, oR a2] [(.ref ay), (.ref ax)])) rfl (by rw [hml]; rfl) (argsL := [(.ref ax), (.ref ay)]) (rest := []) (lenOf pd_4 rfl) rfl (by show 2 * 0 + _ ≤ _; exact Nat.le_of_eq rfl) (hb hby d11_44) (fun _ _ => ⟨rfl, e11, (by decide : 0 + 0 ≤ _), (by decide : 0 + 0 ≤ _)⟩)
  dsimp only [Pt.U, Pt.locs, Pt.cells, Pt.slots] at X12 lq12 yq12 zq12 st12 hQ12
  subst lq12 yq12 zq12
  obtain ⟨rfl, Nq12, eq12⟩ := hQ12
  have N12 := Fr.app N0 Nq12
  refine own_go (st' := T12.setTop (mkF m 47 #[oR a1, oR a2, oR a2] [(.int (0 : Int32))])) (fun t k => st12 t k) ?_
  have hc13 : (0 : Int32) = (0 : Int32) := by decide
  refine own_go (st' := T12.setTop (mkF m 54 #[oR a1, oR a2, oR a2] [])) (fun _ k => XS.ifYes X12.here hx rfl (pc0 := 47) (pc' := 54) rfl (hb hby d11_47) rfl ((if0 _ _).trans (teq hc13).1) (by decide) (by decide) k) ?_
  refine own_go (st' := T12.setTop (mkF m 55 #[oR a1, oR a2, oR a2] [(.int (0 : Int32))])) (fun _ k => XS.iconst X12.here hx rfl (hb hby d11_54) k) ?_
  obtain ⟨fs, hr, hrun, hended, hW, hsame⟩ := X12.leave (v := some (.int (0 : Int32))) (fun h => by rw [Bd.returns] at h; cases h)
  refine ⟨_, _, ?_, hP _ _ hrun hended ⟨_, _, rfl, ?_, ⟨_, rfl⟩, hW, hsame.mono (by decide) (by decide)⟩⟩
  · exact retN X12 hx (t := .boolean) Bd.returns (by simp) (hb hby d11_55) hr
  · show Qrse_32 Z a1 a2 zc ax ka ay kb w0 w1 w2 z0 z1 h0 n0 _ T12.heap _
    rw [eq12]
    exact ⟨rfl, N12, rfl⟩
theorem d12_7 : decode jdk_43_method_13_code 7 = .ok (.iconst 0, 1) := by decide +kernel
theorem d12_8 : decode jdk_43_method_13_code 8 = .ok (.istore_n 2, 1) := by decide +kernel
theorem d12_9 : decode jdk_43_method_13_code 9 = .ok (.iload_n 2, 1) := by decide +kernel
theorem d12_10 : decode jdk_43_method_13_code 10 = .ok (.aload_n 0, 1) := by decide +kernel
theorem d12_11 : decode jdk_43_method_13_code 11 = .ok (.arraylength, 1) := by decide +kernel
theorem d12_12 : decode jdk_43_method_13_code 12 = .ok (.if_icmp .ge 20, 3) := by decide +kernel
theorem d12_15 : decode jdk_43_method_13_code 15 = .ok (.aload_n 0, 1) := by decide +kernel
theorem d12_16 : decode jdk_43_method_13_code 16 = .ok (.iload_n 2, 1) := by decide +kernel
theorem d12_17 : decode jdk_43_method_13_code 17 = .ok (.baload, 1) := by decide +kernel
theorem d12_18 : decode jdk_43_method_13_code 18 = .ok (.aload_n 1, 1) := by decide +kernel
theorem d12_19 : decode jdk_43_method_13_code 19 = .ok (.iload_n 2, 1) := by decide +kernel
theorem d12_20 : decode jdk_43_method_13_code 20 = .ok (.baload, 1) := by decide +kernel
theorem d12_21 : decode jdk_43_method_13_code 21 = .ok (.if_icmp .eq 5, 3) := by decide +kernel
theorem d12_24 : decode jdk_43_method_13_code 24 = .ok (.iconst 0, 1) := by decide +kernel
theorem d12_25 : decode jdk_43_method_13_code 25 = .ok (.ireturn, 1) := by decide +kernel
theorem d12_26 : decode jdk_43_method_13_code 26 = .ok (.iinc 2 1, 3) := by decide +kernel
theorem d12_29 : decode jdk_43_method_13_code 29 = .ok (.goto (-20), 3) := by decide +kernel
theorem d12_32 : decode jdk_43_method_13_code 32 = .ok (.iconst 1, 1) := by decide +kernel
theorem d12_33 : decode jdk_43_method_13_code 33 = .ok (.ireturn, 1) := by decide +kernel
theorem ef_rle_33 (m : MethodId) (x0 : Addr) (x1 : Addr) : entryFrame m #[(.ref x0), (.ref x1)] 3 = mkF m 0 #[.val (.ref x0), .val (.ref x1), .unset] [] := by first | (simp [entryFrame, mkF, argsToLocals, Value.category]; done) | rfl
def Qrle_33 (Z : State) (ax : Addr) (ka : ClassId) (ay : Addr) (kb : ClassId) (w0 : Int32) (w1 : Int32) (w2 : Int32) (z0 : Int32) (z1 : Int32) (z2 : Int32) (h0 : Heap) (n0 : Nat) (v : Option Value) (h : Heap) (L : List Loc) : Prop := (v = some (.int (own_eq3 w0 w1 w2 z0 z1 z2))) ∧ (Fr n0 L) ∧ (h = h0)
set_option maxRecDepth 65536 in
set_option maxHeartbeats 40000000 in
theorem rle_33 (l : Launch) (Z : State) (a0 : Array Value) (hw : ∀ d ∈ tables_1, d.before a0 Z = true) (ws : List Jvm.Cond) (ax : Addr) (ka : ClassId) (ay : Addr) (kb : ClassId) (w0 : Int32) (w1 : Int32) (w2 : Int32) (z0 : Int32) (z1 : Int32) (z2 : Int32) (h0 : Heap) (n0 : Nat) (Z0 : n0 ≤ h0.size) (pr1 : Arv Z h0 ax ka .byte (3 : Int32) [(.int w0), (.int w1), (.int w2)] (.int (0 : Int32))) (pr2 : Arv Z h0 ay kb .byte (3 : Int32) [(.int z0), (.int z1), (.int z2)] (.int (0 : Int32))) :
    MetFree l oM4 (head1 (Jvm.Cond.code oM4 jdk_43_method_13_code 3 (some .boolean) :: ws) ({ frames := 0, cells := 0, slots := 0, locals := 0 } : Room)) (fun a U => a = #[(.ref ax), (.ref ay)] ∧ Z.Warmed39 U.vm ∧ U.heap = h0) (fun _ _ _ _ _ => True) (fun _ U o U' => ∃ v L, o = .returned v ∧ Qrle_33 Z ax ka ay kb w0 w1 w2 z0 z1 z2 h0 n0 v U'.heap L ∧ FrameEnd U o U' L ({ frames := 0, cells := 0, slots := 0, locals := 0 } : Room).cells ({ frames := 0, cells := 0, slots := 0, locals := 0 } : Room).slots) := by
  refine MetFree.of_bodySF (plainFor_of_name pn_12) hisR ?_
  intro p e s m args below meth c s₁ Bd hml0 hP0 hK
  obtain ⟨rfl, hZ, hh⟩ := hP0
  have hx := Bd.exec
  have hby := Bd.bytes
  have hml : c.maxLocals = 3 := hml0
  have hown : s.vm.findClass oS8 = some m.cls := findClass_of_methodNamed Bd.named
  have hnm := (name_of_methodNamed Bd.named Bd.method).1
  have X0 : Stand p l e ({ frames := 0, cells := 0, slots := 0, locals := 0 } : Room) s m #[(.ref ax), (.ref ay)] below meth c s₁ [] 0 0 := Stand.of_body Bd
  have e0 : s₁.heap = h0 := by rw [← hh, Bd.state]; rfl
  have N0 := Fr.nil n0
  suffices own_H : ∀ (P : State → Outcome → Prop), (∀ U o, U.status = .running → Ended U below o → (∃ v L, o = .returned v ∧ Qrle_33 Z ax ka ay kb w0 w1 w2 z0 z1 z2 h0 n0 v U.heap L ∧ FrameEnd s o U L ({ frames := 0, cells := 0, slots := 0, locals := 0 } : Room).cells ({ frames := 0, cells := 0, slots := 0, locals := 0 } : Room).slots) → P U o) → own_Go p.tables e below P (s₁.setTop (mkF m 0 #[oR ax, oR ay, .unset] [])) from own_go (fun _ k => castTop (ef_rle_33 m ax ay) k) (own_H _ (fun U o h1 h2 h3 => ⟨h1, h2, h3⟩))
  intro P hP
  have lt_ax : @LT.lt Nat _ ax h0.size := pr1.lt
  have lt_ay : @LT.lt Nat _ ay h0.size := pr2.lt
  refine own_go (st' := s₁.setTop (mkF m 1 #[oR ax, oR ay, .unset] [(.ref ax)])) (fun _ k => XS.aloadN X0.here hx rfl (hb hby d12_0) rfl rfl k) ?_
  obtain ⟨cl1, Ar1, -, S1, M1, -, -⟩ := id pr1
  refine own_go (st' := s₁.setTop (mkF m 2 #[oR ax, oR ay, .unset] [(.int (3 : Int32))])) (fun t k => X0.arraylength hx (by rw [e0]; exact Ar1.1) (State.isArrayOf_alike hZ.alike Ar1.2.1) (g := (mkF m 1 #[oR ax, oR ay, .unset] [(.ref ax)])) rfl rfl (hb hby d12_1) t (by rw [len_of S1 M1]; exact k)) ?_
  refine own_go (st' := s₁.setTop (mkF m 3 #[oR ax, oR ay, .unset] [(.ref ay), (.int (3 : Int32))])) (fun _ k => XS.aloadN X0.here hx rfl (hb hby d12_2) rfl rfl k) ?_
  obtain ⟨cl2, Ar2, -, S2, M2, -, -⟩ := id pr2
  refine own_go (st' := s₁.setTop (mkF m 4 #[oR ax, oR ay, .unset] [(.int (3 : Int32)), (.int (3 : Int32))])) (fun t k => X0.arraylength hx (by rw [e0]; exact Ar2.1) (State.isArrayOf_alike hZ.alike Ar2.2.1) (g := (mkF m 3 #[oR ax, oR ay, .unset] [(.ref ay), (.int (3 : Int32))])) rfl rfl (hb hby d12_3) t (by rw [len_of S2 M2]; exact k)) ?_
  have hc3 : (3 : Int32) = (3 : Int32) := by decide
  refine own_go (st' := s₁.setTop (mkF m 7 #[oR ax, oR ay, .unset] [])) (fun _ k => XS.icmpNo X0.here hx rfl (hb hby d12_4) rfl (teq hc3).2 k) ?_
  refine own_go (st' := s₁.setTop (mkF m 8 #[oR ax, oR ay, .unset] [(.int (0 : Int32))])) (fun _ k => XS.iconst X0.here hx rfl (hb hby d12_7) k) ?_
  refine own_go (st' := s₁.setTop (mkF m 9 #[oR ax, oR ay, oi 0] [])) (fun _ k => XS.istoreN X0.here hx rfl (hb hby d12_8) rfl (l' := #[oR ax, oR ay, oi 0]) rfl k) ?_
  refine own_go (st' := s₁.setTop (mkF m 10 #[oR ax, oR ay, oi 0] [(.int (0 : Int32))])) (fun _ k => XS.iloadN X0.here hx rfl (hb hby d12_9) rfl k) ?_
  refine own_go (st' := s₁.setTop (mkF m 11 #[oR ax, oR ay, oi 0] [(.ref ax), (.int (0 : Int32))])) (fun _ k => XS.aloadN X0.here hx rfl (hb hby d12_10) rfl rfl k) ?_
  obtain ⟨cl4, Ar4, -, S4, M4, -, -⟩ := id pr1
  refine own_go (st' := s₁.setTop (mkF m 12 #[oR ax, oR ay, oi 0] [(.int (3 : Int32)), (.int (0 : Int32))])) (fun t k => X0.arraylength hx (by rw [e0]; exact Ar4.1) (State.isArrayOf_alike hZ.alike Ar4.2.1) (g := (mkF m 11 #[oR ax, oR ay, oi 0] [(.ref ax), (.int (0 : Int32))])) rfl rfl (hb hby d12_11) t (by rw [len_of S4 M4]; exact k)) ?_
  have hc5 : (0 : Int32) < (3 : Int32) := by decide
  refine own_go (st' := s₁.setTop (mkF m 15 #[oR ax, oR ay, oi 0] [])) (fun _ k => XS.icmpNo X0.here hx rfl (hb hby d12_12) rfl (tlt hc5).2.1 k) ?_
  refine own_go (st' := s₁.setTop (mkF m 16 #[oR ax, oR ay, oi 0] [(.ref ax)])) (fun _ k => XS.aloadN X0.here hx rfl (hb hby d12_15) rfl rfl k) ?_
  refine own_go (st' := s₁.setTop (mkF m 17 #[oR ax, oR ay, oi 0] [(.int (0 : Int32)), (.ref ax)])) (fun _ k => XS.iloadN X0.here hx rfl (hb hby d12_16) rfl k) ?_
  obtain ⟨cl6, Ar6, -, S6, M6, H6, -⟩ := id pr1
  have hin6 : ¬ ((0 : Int32) < 0 ∨ cl6.slots.size ≤ ((0 : Int32)).toNatClampNeg) := (inb_of S6 ⟨by decide, by decide⟩)
  have hat6 : cl6.slots[((0 : Int32)).toNatClampNeg]? = some (.int w0) := (H6.at hin6 rfl)
  refine own_go (st' := s₁.setTop (mkF m 18 #[oR ax, oR ay, oi 0] [(.int w0)])) (X0.baloadBytes hx (j := (0 : Int32)) (v := (.int w0)) (by rw [e0]; exact Ar6.1) (State.isArrayOf_alike hZ.alike Ar6.2.1) Ar6.2.2 hin6 hat6 (g := (mkF m 17 #[oR ax, oR ay, oi 0] [(.int (0 : Int32)), (.ref ax)])) rfl rfl (hb hby d12_17)) ?_
  refine own_go (st' := s₁.setTop (mkF m 19 #[oR ax, oR ay, oi 0] [(.ref ay), (.int w0)])) (fun _ k => XS.aloadN X0.here hx rfl (hb hby d12_18) rfl rfl k) ?_
  refine own_go (st' := s₁.setTop (mkF m 20 #[oR ax, oR ay, oi 0] [(.int (0 : Int32)), (.ref ay), (.int w0)])) (fun _ k => XS.iloadN X0.here hx rfl (hb hby d12_19) rfl k) ?_
  obtain ⟨cl7, Ar7, -, S7, M7, H7, -⟩ := id pr2
  have hin7 : ¬ ((0 : Int32) < 0 ∨ cl7.slots.size ≤ ((0 : Int32)).toNatClampNeg) := (inb_of S7 ⟨by decide, by decide⟩)
  have hat7 : cl7.slots[((0 : Int32)).toNatClampNeg]? = some (.int z0) := (H7.at hin7 rfl)
  refine own_go (st' := s₁.setTop (mkF m 21 #[oR ax, oR ay, oi 0] [(.int z0), (.int w0)])) (X0.baloadBytes hx (j := (0 : Int32)) (v := (.int z0)) (by rw [e0]; exact Ar7.1) (State.isArrayOf_alike hZ.alike Ar7.2.1) Ar7.2.2 hin7 hat7 (g := (mkF m 20 #[oR ax, oR ay, oi 0] [(.int (0 : Int32)), (.ref ay), (.int w0)])) rfl rfl (hb hby d12_20)) ?_
  by_cases hc8 : w0 = z0
  · --
    refine own_go (st' := s₁.setTop (mkF m 26 #[oR ax, oR ay, oi 0] [])) (fun _ k => XS.icmpYes X0.here hx rfl (pc0 := 21) (pc' := 26) rfl (hb hby d12_21) rfl (teq hc8).1 (by decide) (by decide) k) ?_
    refine own_go (st' := s₁.setTop (mkF m 29 #[oR ax, oR ay, oi 1] [])) (fun _ k => XS.iinc X0.here hx rfl (hb hby d12_26) rfl (l' := #[oR ax, oR ay, oi 1]) (by rw [show ((0 : Int32) + Int32.ofInt 1) = (1 : Int32) by decide]; rfl) k) ?_
    refine own_go (st' := s₁.setTop (mkF m 9 #[oR ax, oR ay, oi 1] [])) (fun _ k => XS.goto X0.here hx rfl (pc0 := 29) (pc' := 9) rfl (hb hby d12_29) (by decide) (by decide) k) ?_
    refine own_go (st' := s₁.setTop (mkF m 10 #[oR ax, oR ay, oi 1] [(.int (1 : Int32))])) (fun _ k => XS.iloadN X0.here hx rfl (hb hby d12_9) rfl k) ?_
    refine own_go (st' := s₁.setTop (mkF m 11 #[oR ax, oR ay, oi 1] [(.ref ax), (.int (1 : Int32))])) (fun _ k => XS.aloadN X0.here hx rfl (hb hby d12_10) rfl rfl k) ?_
    obtain ⟨cl9, Ar9, -, S9, M9, -, -⟩ := id pr1
    refine own_go (st' := s₁.setTop (mkF m 12 #[oR ax, oR ay, oi 1] [(.int (3 : Int32)), (.int (1 : Int32))])) (fun t k => X0.arraylength hx (by rw [e0]; exact Ar9.1) (State.isArrayOf_alike hZ.alike Ar9.2.1) (g := (mkF m 11 #[oR ax, oR ay, oi 1] [(.ref ax), (.int (1 : Int32))])) rfl rfl (hb hby d12_11) t (by rw [len_of S9 M9]; exact k)) ?_
    have hc10 : (1 : Int32) < (3 : Int32) := by decide
    refine own_go (st' := s₁.setTop (mkF m 15 #[oR ax, oR ay, oi 1] [])) (fun _ k => XS.icmpNo X0.here hx rfl (hb hby d12_12) rfl (tlt hc10).2.1 k) ?_
    refine own_go (st' := s₁.setTop (mkF m 16 #[oR ax, oR ay, oi 1] [(.ref ax)])) (fun _ k => XS.aloadN X0.here hx rfl (hb hby d12_15) rfl rfl k) ?_
    refine own_go (st' := s₁.setTop (mkF m 17 #[oR ax, oR ay, oi 1] [(.int (1 : Int32)), (.ref ax)])) (fun _ k => XS.iloadN X0.here hx rfl (hb hby d12_16) rfl k) ?_
    obtain ⟨cl11, Ar11, -, S11, M11, H11, -⟩ := id pr1
    have hin11 : ¬ ((1 : Int32) < 0 ∨ cl11.slots.size ≤ ((1 : Int32)).toNatClampNeg) := (inb_of S11 ⟨by decide, by decide⟩)
    have hat11 : cl11.slots[((1 : Int32)).toNatClampNeg]? = some (.int w1) := (H11.at hin11 rfl)
    refine own_go (st' := s₁.setTop (mkF m 18 #[oR ax, oR ay, oi 1] [(.int w1)])) (X0.baloadBytes hx (j := (1 : Int32)) (v := (.int w1)) (by rw [e0]; exact Ar11.1) (State.isArrayOf_alike hZ.alike Ar11.2.1) Ar11.2.2 hin11 hat11 (g := (mkF m 17 #[oR ax, oR ay, oi 1] [(.int (1 : Int32)), (.ref ax)])) rfl rfl (hb hby d12_17)) ?_
    refine own_go (st' := s₁.setTop (mkF m 19 #[oR ax, oR ay, oi 1] [(.ref ay), (.int w1)])) (fun _ k => XS.aloadN X0.here hx rfl (hb hby d12_18) rfl rfl k) ?_
    refine own_go (st' := s₁.setTop (mkF m 20 #[oR ax, oR ay, oi 1] [(.int (1 : Int32)), (.ref ay), (.int w1)])) (fun _ k => XS.iloadN X0.here hx rfl (hb hby d12_19) rfl k) ?_
    obtain ⟨cl12, Ar12, -, S12, M12, H12, -⟩ := id pr2
    have hin12 : ¬ ((1 : Int32) < 0 ∨ cl12.slots.size ≤ ((1 : Int32)).toNatClampNeg) := (inb_of S12 ⟨by decide, by decide⟩)
    have hat12 : cl12.slots[((1 : Int32)).toNatClampNeg]? = some (.int z1) := (H12.at hin12 rfl)
    refine own_go (st' := s₁.setTop (mkF m 21 #[oR ax, oR ay, oi 1] [(.int z1), (.int w1)])) (X0.baloadBytes hx (j := (1 : Int32)) (v := (.int z1)) (by rw [e0]; exact Ar12.1) (State.isArrayOf_alike hZ.alike Ar12.2.1) Ar12.2.2 hin12 hat12 (g := (mkF m 20 #[oR ax, oR ay, oi 1] [(.int (1 : Int32)), (.ref ay), (.int w1)])) rfl rfl (hb hby d12_20)) ?_
    by_cases hc13 : w1 = z1
    · --
      refine own_go (st' := s₁.setTop (mkF m 26 #[oR ax, oR ay, oi 1] [])) (fun _ k => XS.icmpYes X0.here hx rfl (pc0 := 21) (pc' := 26) rfl (hb hby d12_21) rfl (teq hc13).1 (by decide) (by decide) k) ?_
      refine own_go (st' := s₁.setTop (mkF m 29 #[oR ax, oR ay, oi 2] [])) (fun _ k => XS.iinc X0.here hx rfl (hb hby d12_26) rfl (l' := #[oR ax, oR ay, oi 2]) (by rw [show ((1 : Int32) + Int32.ofInt 1) = (2 : Int32) by decide]; rfl) k) ?_
      refine own_go (st' := s₁.setTop (mkF m 9 #[oR ax, oR ay, oi 2] [])) (fun _ k => XS.goto X0.here hx rfl (pc0 := 29) (pc' := 9) rfl (hb hby d12_29) (by decide) (by decide) k) ?_
      refine own_go (st' := s₁.setTop (mkF m 10 #[oR ax, oR ay, oi 2] [(.int (2 : Int32))])) (fun _ k => XS.iloadN X0.here hx rfl (hb hby d12_9) rfl k) ?_
      refine own_go (st' := s₁.setTop (mkF m 11 #[oR ax, oR ay, oi 2] [(.ref ax), (.int (2 : Int32))])) (fun _ k => XS.aloadN X0.here hx rfl (hb hby d12_10) rfl rfl k) ?_
      obtain ⟨cl14, Ar14, -, S14, M14, -, -⟩ := id pr1
      refine own_go (st' := s₁.setTop (mkF m 12 #[oR ax, oR ay, oi 2] [(.int (3 : Int32)), (.int (2 : Int32))])) (fun t k => X0.arraylength hx (by rw [e0]; exact Ar14.1) (State.isArrayOf_alike hZ.alike Ar14.2.1) (g := (mkF m 11 #[oR ax, oR ay, oi 2] [(.ref ax), (.int (2 : Int32))])) rfl rfl (hb hby d12_11) t (by rw [len_of S14 M14]; exact k)) ?_
      have hc15 : (2 : Int32) < (3 : Int32) := by decide
      refine own_go (st' := s₁.setTop (mkF m 15 #[oR ax, oR ay, oi 2] [])) (fun _ k => XS.icmpNo X0.here hx rfl (hb hby d12_12) rfl (tlt hc15).2.1 k) ?_
      refine own_go (st' := s₁.setTop (mkF m 16 #[oR ax, oR ay, oi 2] [(.ref ax)])) (fun _ k => XS.aloadN X0.here hx rfl (hb hby d12_15) rfl rfl k) ?_
      refine own_go (st' := s₁.setTop (mkF m 17 #[oR ax, oR ay, oi 2] [(.int (2 : Int32)), (.ref ax)])) (fun _ k => XS.iloadN X0.here hx rfl (hb hby d12_16) rfl k) ?_
      obtain ⟨cl16, Ar16, -, S16, M16, H16, -⟩ := id pr1
      have hin16 : ¬ ((2 : Int32) < 0 ∨ cl16.slots.size ≤ ((2 : Int32)).toNatClampNeg) := (inb_of S16 ⟨by decide, by decide⟩)
      have hat16 : cl16.slots[((2 : Int32)).toNatClampNeg]? = some (.int w2) := (H16.at hin16 rfl)
      refine own_go (st' := s₁.setTop (mkF m 18 #[oR ax, oR ay, oi 2] [(.int w2)])) (X0.baloadBytes hx (j := (2 : Int32)) (v := (.int w2)) (by rw [e0]; exact Ar16.1) (State.isArrayOf_alike hZ.alike Ar16.2.1) Ar16.2.2 hin16 hat16 (g := (mkF m 17 #[oR ax, oR ay, oi 2] [(.int (2 : Int32)), (.ref ax)])) rfl rfl (hb hby d12_17)) ?_
      refine own_go (st' := s₁.setTop (mkF m 19 #[oR ax, oR ay, oi 2] [(.ref ay), (.int w2)])) (fun _ k => XS.aloadN X0.here hx rfl (hb hby d12_18) rfl rfl k) ?_
      refine own_go (st' := s₁.setTop (mkF m 20 #[oR ax, oR ay, oi 2] [(.int (2 : Int32)), (.ref ay), (.int w2)])) (fun _ k => XS.iloadN X0.here hx rfl (hb hby d12_19) rfl k) ?_
      obtain ⟨cl17, Ar17, -, S17, M17, H17, -⟩ := id pr2
      have hin17 : ¬ ((2 : Int32) < 0 ∨ cl17.slots.size ≤ ((2 : Int32)).toNatClampNeg) := (inb_of S17 ⟨by decide, by decide⟩)
      have hat17 : cl17.slots[((2 : Int32)).toNatClampNeg]? = some (.int z2) := (H17.at hin17 rfl)
      refine own_go (st' := s₁.setTop (mkF m 21 #[oR ax, oR ay, oi 2] [(.int z2), (.int w2)])) (X0.baloadBytes hx (j := (2 : Int32)) (v := (.int z2)) (by rw [e0]; exact Ar17.1) (State.isArrayOf_alike hZ.alike Ar17.2.1) Ar17.2.2 hin17 hat17 (g := (mkF m 20 #[oR ax, oR ay, oi 2] [(.int (2 : Int32)), (.ref ay), (.int w2)])) rfl rfl (hb hby d12_20)) ?_
      by_cases hc18 : w2 = z2
      · --
        refine own_go (st' := s₁.setTop (mkF m 26 #[oR ax, oR ay, oi 2] [])) (fun _ k => XS.icmpYes X0.here hx rfl (pc0 := 21) (pc' := 26) rfl (hb hby d12_21) rfl (teq hc18).1 (by decide) (by decide) k) ?_
        refine own_go (st' := s₁.setTop (mkF m 29 #[oR ax, oR ay, oi 3] [])) (fun _ k => XS.iinc X0.here hx rfl (hb hby d12_26) rfl (l' := #[oR ax, oR ay, oi 3]) (by rw [show ((2 : Int32) + Int32.ofInt 1) = (3 : Int32) by decide]; rfl) k) ?_
        refine own_go (st' := s₁.setTop (mkF m 9 #[oR ax, oR ay, oi 3] [])) (fun _ k => XS.goto X0.here hx rfl (pc0 := 29) (pc' := 9) rfl (hb hby d12_29) (by decide) (by decide) k) ?_
        refine own_go (st' := s₁.setTop (mkF m 10 #[oR ax, oR ay, oi 3] [(.int (3 : Int32))])) (fun _ k => XS.iloadN X0.here hx rfl (hb hby d12_9) rfl k) ?_
        refine own_go (st' := s₁.setTop (mkF m 11 #[oR ax, oR ay, oi 3] [(.ref ax), (.int (3 : Int32))])) (fun _ k => XS.aloadN X0.here hx rfl (hb hby d12_10) rfl rfl k) ?_
        obtain ⟨cl19, Ar19, -, S19, M19, -, -⟩ := id pr1
        refine own_go (st' := s₁.setTop (mkF m 12 #[oR ax, oR ay, oi 3] [(.int (3 : Int32)), (.int (3 : Int32))])) (fun t k => X0.arraylength hx (by rw [e0]; exact Ar19.1) (State.isArrayOf_alike hZ.alike Ar19.2.1) (g := (mkF m 11 #[oR ax, oR ay, oi 3] [(.ref ax), (.int (3 : Int32))])) rfl rfl (hb hby d12_11) t (by rw [len_of S19 M19]; exact k)) ?_
        have hc20 : ¬ ((3 : Int32) < (3 : Int32)) := by decide
        refine own_go (st' := s₁.setTop (mkF m 32 #[oR ax, oR ay, oi 3] [])) (fun _ k => XS.icmpYes X0.here hx rfl (pc0 := 12) (pc' := 32) rfl (hb hby d12_12) rfl (flt hc20).2.1 (by decide) (by decide) k) ?_
        refine own_go (st' := s₁.setTop (mkF m 33 #[oR ax, oR ay, oi 3] [(.int (1 : Int32))])) (fun _ k => XS.iconst X0.here hx rfl (hb hby d12_32) k) ?_
        obtain ⟨fs, hr, hrun, hended, hW, hsame⟩ := X0.leave (v := some (.int (1 : Int32))) (fun h => by rw [Bd.returns] at h; cases h)
        refine ⟨_, _, ?_, hP _ _ hrun hended ⟨_, _, rfl, ?_, ⟨_, rfl⟩, hW, hsame.mono (by decide) (by decide)⟩⟩
        · exact retN X0 hx (t := .boolean) Bd.returns (by simp) (hb hby d12_33) hr
        · show Qrle_33 Z ax ka ay kb w0 w1 w2 z0 z1 z2 h0 n0 _ s₁.heap _
          rw [e0]
          exact ⟨(by unfold own_eq3; rw [if_pos hc8, if_pos hc13, if_pos hc18]), N0, rfl⟩
      · --
        refine own_go (st' := s₁.setTop (mkF m 24 #[oR ax, oR ay, oi 2] [])) (fun _ k => XS.icmpNo X0.here hx rfl (hb hby d12_21) rfl (feq hc18).1 k) ?_
        refine own_go (st' := s₁.setTop (mkF m 25 #[oR ax, oR ay, oi 2] [(.int (0 : Int32))])) (fun _ k => XS.iconst X0.here hx rfl (hb hby d12_24) k) ?_
        obtain ⟨fs, hr, hrun, hended, hW, hsame⟩ := X0.leave (v := some (.int (0 : Int32))) (fun h => by rw [Bd.returns] at h; cases h)
        refine ⟨_, _, ?_, hP _ _ hrun hended ⟨_, _, rfl, ?_, ⟨_, rfl⟩, hW, hsame.mono (by decide) (by decide)⟩⟩
        · exact retN X0 hx (t := .boolean) Bd.returns (by simp) (hb hby d12_25) hr
        · show Qrle_33 Z ax ka ay kb w0 w1 w2 z0 z1 z2 h0 n0 _ s₁.heap _
          rw [e0]
          exact ⟨(by unfold own_eq3; rw [if_pos hc8, if_pos hc13, if_neg hc18]), N0, rfl⟩
    · --
      refine own_go (st' := s₁.setTop (mkF m 24 #[oR ax, oR ay, oi 1] [])) (fun _ k => XS.icmpNo X0.here hx rfl (hb hby d12_21) rfl (feq hc13).1 k) ?_
      refine own_go (st' := s₁.setTop (mkF m 25 #[oR ax, oR ay, oi 1] [(.int (0 : Int32))])) (fun _ k => XS.iconst X0.here hx rfl (hb hby d12_24) k) ?_
      obtain ⟨fs, hr, hrun, hended, hW, hsame⟩ := X0.leave (v := some (.int (0 : Int32))) (fun h => by rw [Bd.returns] at h; cases h)
      refine ⟨_, _, ?_, hP _ _ hrun hended ⟨_, _, rfl, ?_, ⟨_, rfl⟩, hW, hsame.mono (by decide) (by decide)⟩⟩
      · exact retN X0 hx (t := .boolean) Bd.returns (by simp) (hb hby d12_25) hr
      · show Qrle_33 Z ax ka ay kb w0 w1 w2 z0 z1 z2 h0 n0 _ s₁.heap _
        rw [e0]
        exact ⟨(by unfold own_eq3; rw [if_pos hc8, if_neg hc13]), N0, rfl⟩
  · --
    refine own_go (st' := s₁.setTop (mkF m 24 #[oR ax, oR ay, oi 0] [])) (fun _ k => XS.icmpNo X0.here hx rfl (hb hby d12_21) rfl (feq hc8).1 k) ?_
    refine own_go (st' := s₁.setTop (mkF m 25 #[oR ax, oR ay, oi 0] [(.int (0 : Int32))])) (fun _ k => XS.iconst X0.here hx rfl (hb hby d12_24) k) ?_
    obtain ⟨fs, hr, hrun, hended, hW, hsame⟩ := X0.leave (v := some (.int (0 : Int32))) (fun h => by rw [Bd.returns] at h; cases h)
    refine ⟨_, _, ?_, hP _ _ hrun hended ⟨_, _, rfl, ?_, ⟨_, rfl⟩, hW, hsame.mono (by decide) (by decide)⟩⟩
    · exact retN X0 hx (t := .boolean) Bd.returns (by simp) (hb hby d12_25) hr
    · show Qrle_33 Z ax ka ay kb w0 w1 w2 z0 z1 z2 h0 n0 _ s₁.heap _
      rw [e0]
      exact ⟨(by unfold own_eq3; rw [if_neg hc8]), N0, rfl⟩
theorem d11_50 : decode jdk_42_method_66_code 50 = .ok (.iconst 1, 1) := by decide +kernel
theorem d11_51 : decode jdk_42_method_66_code 51 = .ok (.goto 4, 3) := by decide +kernel
theorem ef_rse_33 (m : MethodId) (x0 : Addr) (x1 : Addr) : entryFrame m #[(.ref x0), (.ref x1)] 3 = mkF m 0 #[.val (.ref x0), .val (.ref x1), .unset] [] := by first | (simp [entryFrame, mkF, argsToLocals, Value.category]; done) | rfl
def Qrse_33 (Z : State) (a1 : Addr) (a2 : Addr) (zc : Int32) (ax : Addr) (ka : ClassId) (ay : Addr) (kb : ClassId) (w0 : Int32) (w1 : Int32) (w2 : Int32) (z0 : Int32) (z1 : Int32) (z2 : Int32) (h0 : Heap) (n0 : Nat) (v : Option Value) (h : Heap) (L : List Loc) : Prop := (v = some (.int (own_eq3 w0 w1 w2 z0 z1 z2))) ∧ (Fr n0 L) ∧ (h = h0)
set_option maxRecDepth 65536 in
set_option maxHeartbeats 40000000 in
theorem rse_33 (l : Launch) (Z : State) (a0 : Array Value) (hw : ∀ d ∈ tables_1, d.before a0 Z = true) (ws : List Jvm.Cond) (a1 : Addr) (a2 : Addr) (zc : Int32) (ax : Addr) (ka : ClassId) (ay : Addr) (kb : ClassId) (w0 : Int32) (w1 : Int32) (w2 : Int32) (z0 : Int32) (z1 : Int32) (z2 : Int32) (h0 : Heap) (n0 : Nat) (Z0 : n0 ≤ h0.size) (pr1 : Sta Z h0 oS0 oS3 "Z" (.int zc)) (hzc : ¬ zc = (0 : Int32)) (pr2 : @Ne Nat a1 a2) (pr3 : Exa Z h0 a1 oS0) (pr4 : Fld Z h0 a1 oS0 "value" "[B" (.ref ax)) (pr5 : Fld Z h0 a1 oS0 "coder" "B" (.int (0 : Int32))) (pr6 : Exa Z h0 a2 oS0) (pr7 : Fld Z h0 a2 oS0 "value" "[B" (.ref ay)) (pr8 : Fld Z h0 a2 oS0 "coder" "B" (.int (0 : Int32))) (pr9 : Arv Z h0 ax ka .byte (3 : Int32) [(.int w0), (.int w1), (.int w2)] (.int (0 : Int32))) (pr10 : Arv Z h0 ay kb .byte (3 : Int32) [(.int z0), (.int z1), (.int z2)] (.int (0 : Int32))) :
    MetFree l oM0 (head1 (Jvm.Cond.code oM0 jdk_42_method_66_code 3 (some .boolean) :: ws) ({ frames := 1, cells := 0, slots := 0, locals := 14 } : Room)) (fun a U => a = #[(.ref a1), (.ref a2)] ∧ Z.Warmed39 U.vm ∧ U.heap = h0) (fun _ _ _ _ _ => True) (fun _ U o U' => ∃ v L, o = .returned v ∧ Qrse_33 Z a1 a2 zc ax ka ay kb w0 w1 w2 z0 z1 z2 h0 n0 v U'.heap L ∧ FrameEnd U o U' L ({ frames := 1, cells := 0, slots := 0, locals := 14 } : Room).cells ({ frames := 1, cells := 0, slots := 0, locals := 14 } : Room).slots) := by
  refine MetFree.of_bodySF (plainFor_of_name pn_11) hisR ?_
  intro p e s m args below meth c s₁ Bd hml0 hP0 hK
  obtain ⟨rfl, hZ, hh⟩ := hP0
  have hx := Bd.exec
  have hby := Bd.bytes
  have hml : c.maxLocals = 3 := hml0
  have hown : s.vm.findClass oS0 = some m.cls := findClass_of_methodNamed Bd.named
  have hnm := (name_of_methodNamed Bd.named Bd.method).1
  have X0 : Stand p l e ({ frames := 1, cells := 0, slots := 0, locals := 14 } : Room) s m #[(.ref a1), (.ref a2)] below meth c s₁ [] 0 0 := Stand.of_body Bd
  have e0 : s₁.heap = h0 := by rw [← hh, Bd.state]; rfl
  have N0 := Fr.nil n0
  suffices own_H : ∀ (P : State → Outcome → Prop), (∀ U o, U.status = .running → Ended U below o → (∃ v L, o = .returned v ∧ Qrse_33 Z a1 a2 zc ax ka ay kb w0 w1 w2 z0 z1 z2 h0 n0 v U.heap L ∧ FrameEnd s o U L ({ frames := 1, cells := 0, slots := 0, locals := 14 } : Room).cells ({ frames := 1, cells := 0, slots := 0, locals := 14 } : Room).slots) → P U o) → own_Go p.tables e below P (s₁.setTop (mkF m 0 #[oR a1, oR a2, .unset] [])) from own_go (fun _ k => castTop (ef_rse_33 m a1 a2) k) (own_H _ (fun U o h1 h2 h3 => ⟨h1, h2, h3⟩))
  intro P hP
  have lt_a1 : @LT.lt Nat _ a1 h0.size := pr3.lt
  have lt_a2 : @LT.lt Nat _ a2 h0.size := pr6.lt
  have lt_ax : @LT.lt Nat _ ax h0.size := pr9.lt
  have lt_ay : @LT.lt Nat _ ay h0.size := pr10.lt
  refine own_go (st' := s₁.setTop (mkF m 1 #[oR a1, oR a2, .unset] [(.ref a1)])) (fun _ k => XS.aloadN X0.here hx rfl (hb hby d11_0) rfl rfl k) ?_
  refine own_go (st' := s₁.setTop (mkF m 2 #[oR a1, oR a2, .unset] [(.ref a2), (.ref a1)])) (fun _ k => XS.aloadN X0.here hx rfl (hb hby d11_1) rfl rfl k) ?_
  have hc1 : ¬ (a1 = a2) := (fun q_ => (own_ne' (by assumption)) q_)
  refine own_go (st' := s₁.setTop (mkF m 7 #[oR a1, oR a2, .unset] [])) (fun _ k => Jvm.RoadKit.acmp (g := (mkF m 2 #[oR a1, oR a2, .unset] [(.ref a2), (.ref a1)])) X0 hx rfl rfl rfl (pc0 := 2) (pc' := 7) (same := false) rfl (hb hby d11_2) rfl (decide_eq_false fun q_ => hc1 (Value.ref.inj q_)) (by decide) (by decide) k) ?_
  refine own_go (st' := s₁.setTop (mkF m 8 #[oR a1, oR a2, .unset] [(.ref a2)])) (fun _ k => XS.aloadN X0.here hx rfl (hb hby d11_7) rfl rfl k) ?_
  obtain ⟨T2, X2, e2, st2⟩ := instY X0 hx hZ hown (own_hw hw 65) e0 (Ins.self pr6) (g := (mkF m 8 #[oR a1, oR a2, .unset] [(.ref a2)])) rfl rfl (hb hby d11_8)
  refine own_go (st' := T2.setTop (mkF m 11 #[oR a1, oR a2, .unset] [(.int (1 : Int32))])) (st2) ?_
  have hc3 : ¬ ((1 : Int32) = (0 : Int32)) := by decide
  refine own_go (st' := T2.setTop (mkF m 14 #[oR a1, oR a2, .unset] [])) (fun _ k => XS.ifNo X2.here hx rfl (hb hby d11_11) rfl ((if0 _ _).trans (feq hc3).1) k) ?_
  refine own_go (st' := T2.setTop (mkF m 15 #[oR a1, oR a2, .unset] [(.ref a2)])) (fun _ k => XS.aloadN X2.here hx rfl (hb hby d11_14) rfl rfl k) ?_
  obtain ⟨T4, X4, e4, st4⟩ := castY X2 hx hZ hown (own_hw hw 65) e2 (Ins.self pr6) (g := (mkF m 15 #[oR a1, oR a2, .unset] [(.ref a2)])) rfl rfl (hb hby d11_15)
  refine own_go (st' := T4.setTop (mkF m 18 #[oR a1, oR a2, .unset] [(.ref a2)])) (st4) ?_
  refine own_go (st' := T4.setTop (mkF m 19 #[oR a1, oR a2, oR a2] [])) (fun _ k => XS.astoreN X4.here hx rfl (hb hby d11_18) rfl rfl (l' := #[oR a1, oR a2, oR a2]) rfl k) ?_
  obtain ⟨T5, X5, e5, st5⟩ := getS2 X4 hx hZ hown (host := "") (Or.inl (own_hw hw 21)) Via.refl e4 pr1 (g := (mkF m 19 #[oR a1, oR a2, oR a2] [])) rfl (hb hby d11_19)
  refine own_go (st' := T5.setTop (mkF m 22 #[oR a1, oR a2, oR a2] [(.int zc)])) (st5) ?_
  have hc6 : ¬ (zc = (0 : Int32)) := hzc
  refine own_go (st' := T5.setTop (mkF m 25 #[oR a1, oR a2, oR a2] [])) (fun _ k => XS.ifNo X5.here hx rfl (hb hby d11_22) rfl ((if0 _ _).trans (feq hc6).1) k) ?_
  refine own_go (st' := T5.setTop (mkF m 26 #[oR a1, oR a2, oR a2] [(.ref a1)])) (fun _ k => XS.aloadN X5.here hx rfl (hb hby d11_25) rfl rfl k) ?_
  obtain ⟨T7, X7, e7, st7⟩ := getF X5 hx hZ hown (host := "") (Or.inl (own_hw hw 33)) Via.refl e5 pr5 (g := (mkF m 26 #[oR a1, oR a2, oR a2] [(.ref a1)])) rfl rfl (hb hby d11_26)
  refine own_go (st' := T7.setTop (mkF m 29 #[oR a1, oR a2, oR a2] [(.int (0 : Int32))])) (st7) ?_
  refine own_go (st' := T7.setTop (mkF m 30 #[oR a1, oR a2, oR a2] [(.ref a2), (.int (0 : Int32))])) (fun _ k => XS.aloadN X7.here hx rfl (hb hby d11_29) rfl rfl k) ?_
  obtain ⟨T8, X8, e8, st8⟩ := getF X7 hx hZ hown (host := "") (Or.inl (own_hw hw 33)) Via.refl e7 pr8 (g := (mkF m 30 #[oR a1, oR a2, oR a2] [(.ref a2), (.int (0 : Int32))])) rfl rfl (hb hby d11_30)
  refine own_go (st' := T8.setTop (mkF m 33 #[oR a1, oR a2, oR a2] [(.int (0 : Int32)), (.int (0 : Int32))])) (st8) ?_
  have hc9 : (0 : Int32) = (0 : Int32) := by decide
  refine own_go (st' := T8.setTop (mkF m 36 #[oR a1, oR a2, oR a2] [])) (fun _ k => XS.icmpNo X8.here hx rfl (hb hby d11_33) rfl (teq hc9).2 k) ?_
  refine own_go (st' := T8.setTop (mkF m 37 #[oR a1, oR a2, oR a2] [(.ref a1)])) (fun _ k => XS.aloadN X8.here hx rfl (hb hby d11_36) rfl rfl k) ?_
  obtain ⟨T10, X10, e10, st10⟩ := getF X8 hx hZ hown (host := "") (Or.inl (own_hw hw 35)) Via.refl e8 pr4 (g := (mkF m 37 #[oR a1, oR a2, oR a2] [(.ref a1)])) rfl rfl (hb hby d11_37)
  refine own_go (st' := T10.setTop (mkF m 40 #[oR a1, oR a2, oR a2] [(.ref ax)])) (st10) ?_
  refine own_go (st' := T10.setTop (mkF m 41 #[oR a1, oR a2, oR a2] [(.ref a2), (.ref ax)])) (fun _ k => XS.aloadN X10.here hx rfl (hb hby d11_40) rfl rfl k) ?_
  obtain ⟨T11, X11, e11, st11⟩ := getF X10 hx hZ hown (host := "") (Or.inl (own_hw hw 35)) Via.refl e10 pr7 (g := (mkF m 41 #[oR a1, oR a2, oR a2] [(.ref a2), (.ref ax)])) rfl rfl (hb hby d11_41)
  refine own_go (st' := T11.setTop (mkF m 44 #[oR a1, oR a2, oR a2] [(.ref ay), (.ref ax)])) (st11) ?_
  obtain ⟨_, _, ⟨T12, LC12, kC12, nC12⟩, -, X12, ⟨Lc12, hQ12, lq12, yq12, zq12⟩, st12⟩ := Jvm.LawKit.callS X11 hx (y := oM4) hown (mvT hZ (own_hw hw 66)) (mvT hZ (own_hw hw 67)) (mvT hZ (own_hw hw 68)) (mvT hZ (own_hw hw 69)) (by decide) (backOf (W := 0) (rle_33 l Z a0 hw [] ax ka ay kb w0 w1 w2 z0 z1 z2 h0 n0 (by omega) pr9 pr10) hZ (own_hw hw 69) (own_hw hw 68) (by decide) (by decide)) (g := (mkF m 44 #[oR a1, oR a2, oR a2] [(.ref ay), (.ref ax)])) rfl (by rw [hml]; rfl) (argsL := [(.ref ax), (.ref ay)]) (rest := []) (lenOf pd_4 rfl) rfl (by show 2 * 0 + _ ≤ _; exact Nat.le_of_eq rfl) (hb hby d11_44) (fun _ _ => ⟨rfl, e11, (by decide : 0 + 0 ≤ _), (by decide : 0 + 0 ≤ _)⟩)
  dsimp only [Pt.U, Pt.locs, Pt.cells, Pt.slots] at X12 lq12 yq12 zq12 st12 hQ12
  subst lq12 yq12 zq12
  obtain ⟨rfl, Nq12, eq12⟩ := hQ12
  have N12 := Fr.app N0 Nq12
  refine own_go (st' := T12.setTop (mkF m 47 #[oR a1, oR a2, oR a2] [(.int (own_eq3 w0 w1 w2 z0 z1 z2))])) (fun t k => st12 t k) ?_
  by_cases hc13 : (own_eq3 w0 w1 w2 z0 z1 z2) = (0 : Int32)
  · --
    refine own_go (st' := T12.setTop (mkF m 54 #[oR a1, oR a2, oR a2] [])) (fun _ k => XS.ifYes X12.here hx rfl (pc0 := 47) (pc' := 54) rfl (hb hby d11_47) rfl ((if0 _ _).trans (teq hc13).1) (by decide) (by decide) k) ?_
    refine own_go (st' := T12.setTop (mkF m 55 #[oR a1, oR a2, oR a2] [(.int (0 : Int32))])) (fun _ k => XS.iconst X12.here hx rfl (hb hby d11_54) k) ?_
    obtain ⟨fs, hr, hrun, hended, hW, hsame⟩ := X12.leave (v := some (.int (0 : Int32))) (fun h => by rw [Bd.returns] at h; cases h)
    refine ⟨_, _, ?_, hP _ _ hrun hended ⟨_, _, rfl, ?_, ⟨_, rfl⟩, hW, hsame.mono (by decide) (by decide)⟩⟩
    · exact retN X12 hx (t := .boolean) Bd.returns (by simp) (hb hby d11_55) hr
    · show Qrse_33 Z a1 a2 zc ax ka ay kb w0 w1 w2 z0 z1 z2 h0 n0 _ T12.heap _
      rw [eq12]
      exact ⟨(by rw [hc13]), N12, rfl⟩
  · --
    refine own_go (st' := T12.setTop (mkF m 50 #[oR a1, oR a2, oR a2] [])) (fun _ k => XS.ifNo X12.here hx rfl (hb hby d11_47) rfl ((if0 _ _).trans (feq hc13).1) k) ?_
    refine own_go (st' := T12.setTop (mkF m 51 #[oR a1, oR a2, oR a2] [(.int (1 : Int32))])) (fun _ k => XS.iconst X12.here hx rfl (hb hby d11_50) k) ?_
    refine own_go (st' := T12.setTop (mkF m 55 #[oR a1, oR a2, oR a2] [(.int (1 : Int32))])) (fun _ k => XS.goto X12.here hx rfl (pc0 := 51) (pc' := 55) rfl (hb hby d11_51) (by decide) (by decide) k) ?_
    obtain ⟨fs, hr, hrun, hended, hW, hsame⟩ := X12.leave (v := some (.int (1 : Int32))) (fun h => by rw [Bd.returns] at h; cases h)
    refine ⟨_, _, ?_, hP _ _ hrun hended ⟨_, _, rfl, ?_, ⟨_, rfl⟩, hW, hsame.mono (by decide) (by decide)⟩⟩
    · exact retN X12 hx (t := .boolean) Bd.returns (by simp) (hb hby d11_55) hr
    · show Qrse_33 Z a1 a2 zc ax ka ay kb w0 w1 w2 z0 z1 z2 h0 n0 _ T12.heap _
      rw [eq12]
      exact ⟨(by rw [own_eq3_one hc13]), N12, rfl⟩
theorem ef_rle_34 (m : MethodId) (x0 : Addr) (x1 : Addr) : entryFrame m #[(.ref x0), (.ref x1)] 3 = mkF m 0 #[.val (.ref x0), .val (.ref x1), .unset] [] := by first | (simp [entryFrame, mkF, argsToLocals, Value.category]; done) | rfl
def Qrle_34 (Z : State) (ax : Addr) (ka : ClassId) (ay : Addr) (kb : ClassId) (w0 : Int32) (w1 : Int32) (w2 : Int32) (z0 : Int32) (z1 : Int32) (z2 : Int32) (z3 : Int32) (h0 : Heap) (n0 : Nat) (v : Option Value) (h : Heap) (L : List Loc) : Prop := (v = some (.int (0 : Int32))) ∧ (Fr n0 L) ∧ (h = h0)
set_option maxRecDepth 65536 in
set_option maxHeartbeats 40000000 in
theorem rle_34 (l : Launch) (Z : State) (a0 : Array Value) (hw : ∀ d ∈ tables_1, d.before a0 Z = true) (ws : List Jvm.Cond) (ax : Addr) (ka : ClassId) (ay : Addr) (kb : ClassId) (w0 : Int32) (w1 : Int32) (w2 : Int32) (z0 : Int32) (z1 : Int32) (z2 : Int32) (z3 : Int32) (h0 : Heap) (n0 : Nat) (Z0 : n0 ≤ h0.size) (pr1 : Arv Z h0 ax ka .byte (3 : Int32) [(.int w0), (.int w1), (.int w2)] (.int (0 : Int32))) (pr2 : Arv Z h0 ay kb .byte (4 : Int32) [(.int z0), (.int z1), (.int z2), (.int z3)] (.int (0 : Int32))) :
    MetFree l oM4 (head1 (Jvm.Cond.code oM4 jdk_43_method_13_code 3 (some .boolean) :: ws) ({ frames := 0, cells := 0, slots := 0, locals := 0 } : Room)) (fun a U => a = #[(.ref ax), (.ref ay)] ∧ Z.Warmed39 U.vm ∧ U.heap = h0) (fun _ _ _ _ _ => True) (fun _ U o U' => ∃ v L, o = .returned v ∧ Qrle_34 Z ax ka ay kb w0 w1 w2 z0 z1 z2 z3 h0 n0 v U'.heap L ∧ FrameEnd U o U' L ({ frames := 0, cells := 0, slots := 0, locals := 0 } : Room).cells ({ frames := 0, cells := 0, slots := 0, locals := 0 } : Room).slots) := by
  refine MetFree.of_bodySF (plainFor_of_name pn_12) hisR ?_
  intro p e s m args below meth c s₁ Bd hml0 hP0 hK
  obtain ⟨rfl, hZ, hh⟩ := hP0
  have hx := Bd.exec
  have hby := Bd.bytes
  have hml : c.maxLocals = 3 := hml0
  have hown : s.vm.findClass oS8 = some m.cls := findClass_of_methodNamed Bd.named
  have hnm := (name_of_methodNamed Bd.named Bd.method).1
  have X0 : Stand p l e ({ frames := 0, cells := 0, slots := 0, locals := 0 } : Room) s m #[(.ref ax), (.ref ay)] below meth c s₁ [] 0 0 := Stand.of_body Bd
  have e0 : s₁.heap = h0 := by rw [← hh, Bd.state]; rfl
  have N0 := Fr.nil n0
  suffices own_H : ∀ (P : State → Outcome → Prop), (∀ U o, U.status = .running → Ended U below o → (∃ v L, o = .returned v ∧ Qrle_34 Z ax ka ay kb w0 w1 w2 z0 z1 z2 z3 h0 n0 v U.heap L ∧ FrameEnd s o U L ({ frames := 0, cells := 0, slots := 0, locals := 0 } : Room).cells ({ frames := 0, cells := 0, slots := 0, locals := 0 } : Room).slots) → P U o) → own_Go p.tables e below P (s₁.setTop (mkF m 0 #[oR ax, oR ay, .unset] [])) from own_go (fun _ k => castTop (ef_rle_34 m ax ay) k) (own_H _ (fun U o h1 h2 h3 => ⟨h1, h2, h3⟩))
  intro P hP
  have lt_ax : @LT.lt Nat _ ax h0.size := pr1.lt
  have lt_ay : @LT.lt Nat _ ay h0.size := pr2.lt
  refine own_go (st' := s₁.setTop (mkF m 1 #[oR ax, oR ay, .unset] [(.ref ax)])) (fun _ k => XS.aloadN X0.here hx rfl (hb hby d12_0) rfl rfl k) ?_
  obtain ⟨cl1, Ar1, -, S1, M1, -, -⟩ := id pr1
  refine own_go (st' := s₁.setTop (mkF m 2 #[oR ax, oR ay, .unset] [(.int (3 : Int32))])) (fun t k => X0.arraylength hx (by rw [e0]; exact Ar1.1) (State.isArrayOf_alike hZ.alike Ar1.2.1) (g := (mkF m 1 #[oR ax, oR ay, .unset] [(.ref ax)])) rfl rfl (hb hby d12_1) t (by rw [len_of S1 M1]; exact k)) ?_
  refine own_go (st' := s₁.setTop (mkF m 3 #[oR ax, oR ay, .unset] [(.ref ay), (.int (3 : Int32))])) (fun _ k => XS.aloadN X0.here hx rfl (hb hby d12_2) rfl rfl k) ?_
  obtain ⟨cl2, Ar2, -, S2, M2, -, -⟩ := id pr2
  refine own_go (st' := s₁.setTop (mkF m 4 #[oR ax, oR ay, .unset] [(.int (4 : Int32)), (.int (3 : Int32))])) (fun t k => X0.arraylength hx (by rw [e0]; exact Ar2.1) (State.isArrayOf_alike hZ.alike Ar2.2.1) (g := (mkF m 3 #[oR ax, oR ay, .unset] [(.ref ay), (.int (3 : Int32))])) rfl rfl (hb hby d12_3) t (by rw [len_of S2 M2]; exact k)) ?_
  have hc3 : ¬ ((3 : Int32) = (4 : Int32)) := by decide
  refine own_go (st' := s₁.setTop (mkF m 34 #[oR ax, oR ay, .unset] [])) (fun _ k => XS.icmpYes X0.here hx rfl (pc0 := 4) (pc' := 34) rfl (hb hby d12_4) rfl (feq hc3).2 (by decide) (by decide) k) ?_
  refine own_go (st' := s₁.setTop (mkF m 35 #[oR ax, oR ay, .unset] [(.int (0 : Int32))])) (fun _ k => XS.iconst X0.here hx rfl (hb hby d12_34) k) ?_
  obtain ⟨fs, hr, hrun, hended, hW, hsame⟩ := X0.leave (v := some (.int (0 : Int32))) (fun h => by rw [Bd.returns] at h; cases h)
  refine ⟨_, _, ?_, hP _ _ hrun hended ⟨_, _, rfl, ?_, ⟨_, rfl⟩, hW, hsame.mono (by decide) (by decide)⟩⟩
  · exact retN X0 hx (t := .boolean) Bd.returns (by simp) (hb hby d12_35) hr
  · show Qrle_34 Z ax ka ay kb w0 w1 w2 z0 z1 z2 z3 h0 n0 _ s₁.heap _
    rw [e0]
    exact ⟨rfl, N0, rfl⟩
theorem ef_rse_34 (m : MethodId) (x0 : Addr) (x1 : Addr) : entryFrame m #[(.ref x0), (.ref x1)] 3 = mkF m 0 #[.val (.ref x0), .val (.ref x1), .unset] [] := by first | (simp [entryFrame, mkF, argsToLocals, Value.category]; done) | rfl
def Qrse_34 (Z : State) (a1 : Addr) (a2 : Addr) (zc : Int32) (ax : Addr) (ka : ClassId) (ay : Addr) (kb : ClassId) (w0 : Int32) (w1 : Int32) (w2 : Int32) (z0 : Int32) (z1 : Int32) (z2 : Int32) (z3 : Int32) (h0 : Heap) (n0 : Nat) (v : Option Value) (h : Heap) (L : List Loc) : Prop := (v = some (.int (0 : Int32))) ∧ (Fr n0 L) ∧ (h = h0)
set_option maxRecDepth 65536 in
set_option maxHeartbeats 40000000 in
theorem rse_34 (l : Launch) (Z : State) (a0 : Array Value) (hw : ∀ d ∈ tables_1, d.before a0 Z = true) (ws : List Jvm.Cond) (a1 : Addr) (a2 : Addr) (zc : Int32) (ax : Addr) (ka : ClassId) (ay : Addr) (kb : ClassId) (w0 : Int32) (w1 : Int32) (w2 : Int32) (z0 : Int32) (z1 : Int32) (z2 : Int32) (z3 : Int32) (h0 : Heap) (n0 : Nat) (Z0 : n0 ≤ h0.size) (pr1 : Sta Z h0 oS0 oS3 "Z" (.int zc)) (hzc : ¬ zc = (0 : Int32)) (pr2 : @Ne Nat a1 a2) (pr3 : Exa Z h0 a1 oS0) (pr4 : Fld Z h0 a1 oS0 "value" "[B" (.ref ax)) (pr5 : Fld Z h0 a1 oS0 "coder" "B" (.int (0 : Int32))) (pr6 : Exa Z h0 a2 oS0) (pr7 : Fld Z h0 a2 oS0 "value" "[B" (.ref ay)) (pr8 : Fld Z h0 a2 oS0 "coder" "B" (.int (0 : Int32))) (pr9 : Arv Z h0 ax ka .byte (3 : Int32) [(.int w0), (.int w1), (.int w2)] (.int (0 : Int32))) (pr10 : Arv Z h0 ay kb .byte (4 : Int32) [(.int z0), (.int z1), (.int z2), (.int z3)] (.int (0 : Int32))) :
    MetFree l oM0 (head1 (Jvm.Cond.code oM0 jdk_42_method_66_code 3 (some .boolean) :: ws) ({ frames := 1, cells := 0, slots := 0, locals := 14 } : Room)) (fun a U => a = #[(.ref a1), (.ref a2)] ∧ Z.Warmed39 U.vm ∧ U.heap = h0) (fun _ _ _ _ _ => True) (fun _ U o U' => ∃ v L, o = .returned v ∧ Qrse_34 Z a1 a2 zc ax ka ay kb w0 w1 w2 z0 z1 z2 z3 h0 n0 v U'.heap L ∧ FrameEnd U o U' L ({ frames := 1, cells := 0, slots := 0, locals := 14 } : Room).cells ({ frames := 1, cells := 0, slots := 0, locals := 14 } : Room).slots) := by
  refine MetFree.of_bodySF (plainFor_of_name pn_11) hisR ?_
  intro p e s m args below meth c s₁ Bd hml0 hP0 hK
  obtain ⟨rfl, hZ, hh⟩ := hP0
  have hx := Bd.exec
  have hby := Bd.bytes
  have hml : c.maxLocals = 3 := hml0
  have hown : s.vm.findClass oS0 = some m.cls := findClass_of_methodNamed Bd.named
  have hnm := (name_of_methodNamed Bd.named Bd.method).1
  have X0 : Stand p l e ({ frames := 1, cells := 0, slots := 0, locals := 14 } : Room) s m #[(.ref a1), (.ref a2)] below meth c s₁ [] 0 0 := Stand.of_body Bd
  have e0 : s₁.heap = h0 := by rw [← hh, Bd.state]; rfl
  have N0 := Fr.nil n0
  suffices own_H : ∀ (P : State → Outcome → Prop), (∀ U o, U.status = .running → Ended U below o → (∃ v L, o = .returned v ∧ Qrse_34 Z a1 a2 zc ax ka ay kb w0 w1 w2 z0 z1 z2 z3 h0 n0 v U.heap L ∧ FrameEnd s o U L ({ frames := 1, cells := 0, slots := 0, locals := 14 } : Room).cells ({ frames := 1, cells := 0, slots := 0, locals := 14 } : Room).slots) → P U o) → own_Go p.tables e below P (s₁.setTop (mkF m 0 #[oR a1, oR a2, .unset] [])) from own_go (fun _ k => castTop (ef_rse_34 m a1 a2) k) (own_H _ (fun U o h1 h2 h3 => ⟨h1, h2, h3⟩))
  intro P hP
  have lt_a1 : @LT.lt Nat _ a1 h0.size := pr3.lt
  have lt_a2 : @LT.lt Nat _ a2 h0.size := pr6.lt
  have lt_ax : @LT.lt Nat _ ax h0.size := pr9.lt
  have lt_ay : @LT.lt Nat _ ay h0.size := pr10.lt
  refine own_go (st' := s₁.setTop (mkF m 1 #[oR a1, oR a2, .unset] [(.ref a1)])) (fun _ k => XS.aloadN X0.here hx rfl (hb hby d11_0) rfl rfl k) ?_
  refine own_go (st' := s₁.setTop (mkF m 2 #[oR a1, oR a2, .unset] [(.ref a2), (.ref a1)])) (fun _ k => XS.aloadN X0.here hx rfl (hb hby d11_1) rfl rfl k) ?_
  have hc1 : ¬ (a1 = a2) := (fun q_ => (own_ne' (by assumption)) q_)
  refine own_go (st' := s₁.setTop (mkF m 7 #[oR a1, oR a2, .unset] [])) (fun _ k => Jvm.RoadKit.acmp (g := (mkF m 2 #[oR a1, oR a2, .unset] [(.ref a2), (.ref a1)])) X0 hx rfl rfl rfl (pc0 := 2) (pc' := 7) (same := false) rfl (hb hby d11_2) rfl (decide_eq_false fun q_ => hc1 (Value.ref.inj q_)) (by decide) (by decide) k) ?_
  refine own_go (st' := s₁.setTop (mkF m 8 #[oR a1, oR a2, .unset] [(.ref a2)])) (fun _ k => XS.aloadN X0.here hx rfl (hb hby d11_7) rfl rfl k) ?_
  obtain ⟨T2, X2, e2, st2⟩ := instY X0 hx hZ hown (own_hw hw 65) e0 (Ins.self pr6) (g := (mkF m 8 #[oR a1, oR a2, .unset] [(.ref a2)])) rfl rfl (hb hby d11_8)
  refine own_go (st' := T2.setTop (mkF m 11 #[oR a1, oR a2, .unset] [(.int (1 : Int32))])) (st2) ?_
  have hc3 : ¬ ((1 : Int32) = (0 : Int32)) := by decide
  refine own_go (st' := T2.setTop (mkF m 14 #[oR a1, oR a2, .unset] [])) (fun _ k => XS.ifNo X2.here hx rfl (hb hby d11_11) rfl ((if0 _ _).trans (feq hc3).1) k) ?_
  refine own_go (st' := T2.setTop (mkF m 15 #[oR a1, oR a2, .unset] [(.ref a2)])) (fun _ k => XS.aloadN X2.here hx rfl (hb hby d11_14) rfl rfl k) ?_
  obtain ⟨T4, X4, e4, st4⟩ := castY X2 hx hZ hown (own_hw hw 65) e2 (Ins.self pr6) (g := (mkF m 15 #[oR a1, oR a2, .unset] [(.ref a2)])) rfl rfl (hb hby d11_15)
  refine own_go (st' := T4.setTop (mkF m 18 #[oR a1, oR a2, .unset] [(.ref a2)])) (st4) ?_
  refine own_go (st' := T4.setTop (mkF m 19 #[oR a1, oR a2, oR a2] [])) (fun _ k => XS.astoreN X4.here hx rfl (hb hby d11_18) rfl rfl (l' := #[oR a1, oR a2, oR a2]) rfl k) ?_
  obtain ⟨T5, X5, e5, st5⟩ := getS2 X4 hx hZ hown (host := "") (Or.inl (own_hw hw 21)) Via.refl e4 pr1 (g := (mkF m 19 #[oR a1, oR a2, oR a2] [])) rfl (hb hby d11_19)
  refine own_go (st' := T5.setTop (mkF m 22 #[oR a1, oR a2, oR a2] [(.int zc)])) (st5) ?_
  have hc6 : ¬ (zc = (0 : Int32)) := hzc
  refine own_go (st' := T5.setTop (mkF m 25 #[oR a1, oR a2, oR a2] [])) (fun _ k => XS.ifNo X5.here hx rfl (hb hby d11_22) rfl ((if0 _ _).trans (feq hc6).1) k) ?_
  refine own_go (st' := T5.setTop (mkF m 26 #[oR a1, oR a2, oR a2] [(.ref a1)])) (fun _ k => XS.aloadN X5.here hx rfl (hb hby d11_25) rfl rfl k) ?_
  obtain ⟨T7, X7, e7, st7⟩ := getF X5 hx hZ hown (host := "") (Or.inl (own_hw hw 33)) Via.refl e5 pr5 (g := (mkF m 26 #[oR a1, oR a2, oR a2] [(.ref a1)])) rfl rfl (hb hby d11_26)
  refine own_go (st' := T7.setTop (mkF m 29 #[oR a1, oR a2, oR a2] [(.int (0 : Int32))])) (st7) ?_
  refine own_go (st' := T7.setTop (mkF m 30 #[oR a1, oR a2, oR a2] [(.ref a2), (.int (0 : Int32))])) (fun _ k => XS.aloadN X7.here hx rfl (hb hby d11_29) rfl rfl k) ?_
  obtain ⟨T8, X8, e8, st8⟩ := getF X7 hx hZ hown (host := "") (Or.inl (own_hw hw 33)) Via.refl e7 pr8 (g := (mkF m 30 #[oR a1, oR a2, oR a2] [(.ref a2), (.int (0 : Int32))])) rfl rfl (hb hby d11_30)
  refine own_go (st' := T8.setTop (mkF m 33 #[oR a1, oR a2, oR a2] [(.int (0 : Int32)), (.int (0 : Int32))])) (st8) ?_
  have hc9 : (0 : Int32) = (0 : Int32) := by decide
  refine own_go (st' := T8.setTop (mkF m 36 #[oR a1, oR a2, oR a2] [])) (fun _ k => XS.icmpNo X8.here hx rfl (hb hby d11_33) rfl (teq hc9).2 k) ?_
  refine own_go (st' := T8.setTop (mkF m 37 #[oR a1, oR a2, oR a2] [(.ref a1)])) (fun _ k => XS.aloadN X8.here hx rfl (hb hby d11_36) rfl rfl k) ?_
  obtain ⟨T10, X10, e10, st10⟩ := getF X8 hx hZ hown (host := "") (Or.inl (own_hw hw 35)) Via.refl e8 pr4 (g := (mkF m 37 #[oR a1, oR a2, oR a2] [(.ref a1)])) rfl rfl (hb hby d11_37)
  refine own_go (st' := T10.setTop (mkF m 40 #[oR a1, oR a2, oR a2] [(.ref ax)])) (st10) ?_
  refine own_go (st' := T10.setTop (mkF m 41 #[oR a1, oR a2, oR a2] [(.ref a2), (.ref ax)])) (fun _ k => XS.aloadN X10.here hx rfl (hb hby d11_40) rfl rfl k) ?_
  obtain ⟨T11, X11, e11, st11⟩ := getF X10 hx hZ hown (host := "") (Or.inl (own_hw hw 35)) Via.refl e10 pr7 (g := (mkF m 41 #[oR a1, oR a2, oR a2] [(.ref a2), (.ref ax)])) rfl rfl (hb hby d11_41)
  refine own_go (st' := T11.setTop (mkF m 44 #[oR a1, oR a2, oR a2] [(.ref ay), (.ref ax)])) (st11) ?_
  obtain ⟨_, _, ⟨T12, LC12, kC12, nC12⟩, -, X12, ⟨Lc12, hQ12, lq12, yq12, zq12⟩, st12⟩ := Jvm.LawKit.callS X11 hx (y := oM4) hown (mvT hZ (own_hw hw 66)) (mvT hZ (own_hw hw 67)) (mvT hZ (own_hw hw 68)) (mvT hZ (own_hw hw 69)) (by decide) (backOf (W := 0) (rle_34 l Z a0 hw [] ax ka ay kb w0 w1 w2 z0 z1 z2 z3 h0 n0 (by omega) pr9 pr10) hZ (own_hw hw 69) (own_hw hw 68) (by decide) (by decide)) (g := (mkF m 44 #[oR a1, oR a2, oR a2] [(.ref ay), (.ref ax)])) rfl (by rw [hml]; rfl) (argsL := [(.ref ax), (.ref ay)]) (rest := []) (lenOf pd_4 rfl) rfl (by show 2 * 0 + _ ≤ _; exact Nat.le_of_eq rfl) (hb hby d11_44) (fun _ _ => ⟨rfl, e11, (by decide : 0 + 0 ≤ _), (by decide : 0 + 0 ≤ _)⟩)
  dsimp only [Pt.U, Pt.locs, Pt.cells, Pt.slots] at X12 lq12 yq12 zq12 st12 hQ12
  subst lq12 yq12 zq12
  obtain ⟨rfl, Nq12, eq12⟩ := hQ12
  have N12 := Fr.app N0 Nq12
  refine own_go (st' := T12.setTop (mkF m 47 #[oR a1, oR a2, oR a2] [(.int (0 : Int32))])) (fun t k => st12 t k) ?_
  have hc13 : (0 : Int32) = (0 : Int32) := by decide
  refine own_go (st' := T12.setTop (mkF m 54 #[oR a1, oR a2, oR a2] [])) (fun _ k => XS.ifYes X12.here hx rfl (pc0 := 47) (pc' := 54) rfl (hb hby d11_47) rfl ((if0 _ _).trans (teq hc13).1) (by decide) (by decide) k) ?_
  refine own_go (st' := T12.setTop (mkF m 55 #[oR a1, oR a2, oR a2] [(.int (0 : Int32))])) (fun _ k => XS.iconst X12.here hx rfl (hb hby d11_54) k) ?_
  obtain ⟨fs, hr, hrun, hended, hW, hsame⟩ := X12.leave (v := some (.int (0 : Int32))) (fun h => by rw [Bd.returns] at h; cases h)
  refine ⟨_, _, ?_, hP _ _ hrun hended ⟨_, _, rfl, ?_, ⟨_, rfl⟩, hW, hsame.mono (by decide) (by decide)⟩⟩
  · exact retN X12 hx (t := .boolean) Bd.returns (by simp) (hb hby d11_55) hr
  · show Qrse_34 Z a1 a2 zc ax ka ay kb w0 w1 w2 z0 z1 z2 z3 h0 n0 _ T12.heap _
    rw [eq12]
    exact ⟨rfl, N12, rfl⟩
theorem ef_rse_null (m : MethodId) (x0 : Addr) : entryFrame m #[(.ref x0), .null] 3 = mkF m 0 #[.val (.ref x0), .val .null, .unset] [] := by first | (simp [entryFrame, mkF, argsToLocals, Value.category]; done) | rfl
def Qrse_null (Z : State) (a1 : Addr) (h0 : Heap) (n0 : Nat) (v : Option Value) (h : Heap) (L : List Loc) : Prop := (v = some (.int (0 : Int32))) ∧ (Fr n0 L) ∧ (h = h0)
set_option maxRecDepth 65536 in
set_option maxHeartbeats 40000000 in
theorem rse_null (l : Launch) (Z : State) (a0 : Array Value) (hw : ∀ d ∈ tables_1, d.before a0 Z = true) (ws : List Jvm.Cond) (a1 : Addr) (h0 : Heap) (n0 : Nat) (Z0 : n0 ≤ h0.size)  :
    MetFree l oM0 (head1 (Jvm.Cond.code oM0 jdk_42_method_66_code 3 (some .boolean) :: ws) ({ frames := 0, cells := 0, slots := 0, locals := 0 } : Room)) (fun a U => a = #[(.ref a1), .null] ∧ Z.Warmed39 U.vm ∧ U.heap = h0) (fun _ _ _ _ _ => True) (fun _ U o U' => ∃ v L, o = .returned v ∧ Qrse_null Z a1 h0 n0 v U'.heap L ∧ FrameEnd U o U' L ({ frames := 0, cells := 0, slots := 0, locals := 0 } : Room).cells ({ frames := 0, cells := 0, slots := 0, locals := 0 } : Room).slots) := by
  refine MetFree.of_bodySF (plainFor_of_name pn_11) hisR ?_
  intro p e s m args below meth c s₁ Bd hml0 hP0 hK
  obtain ⟨rfl, hZ, hh⟩ := hP0
  have hx := Bd.exec
  have hby := Bd.bytes
  have hml : c.maxLocals = 3 := hml0
  have hown : s.vm.findClass oS0 = some m.cls := findClass_of_methodNamed Bd.named
  have hnm := (name_of_methodNamed Bd.named Bd.method).1
  have X0 : Stand p l e ({ frames := 0, cells := 0, slots := 0, locals := 0 } : Room) s m #[(.ref a1), .null] below meth c s₁ [] 0 0 := Stand.of_body Bd
  have e0 : s₁.heap = h0 := by rw [← hh, Bd.state]; rfl
  have N0 := Fr.nil n0
  suffices own_H : ∀ (P : State → Outcome → Prop), (∀ U o, U.status = .running → Ended U below o → (∃ v L, o = .returned v ∧ Qrse_null Z a1 h0 n0 v U.heap L ∧ FrameEnd s o U L ({ frames := 0, cells := 0, slots := 0, locals := 0 } : Room).cells ({ frames := 0, cells := 0, slots := 0, locals := 0 } : Room).slots) → P U o) → own_Go p.tables e below P (s₁.setTop (mkF m 0 #[oR a1, .val .null, .unset] [])) from own_go (fun _ k => castTop (ef_rse_null m a1) k) (own_H _ (fun U o h1 h2 h3 => ⟨h1, h2, h3⟩))
  intro P hP
  refine own_go (st' := s₁.setTop (mkF m 1 #[oR a1, .val .null, .unset] [(.ref a1)])) (fun _ k => XS.aloadN X0.here hx rfl (hb hby d11_0) rfl rfl k) ?_
  refine own_go (st' := s₁.setTop (mkF m 2 #[oR a1, .val .null, .unset] [.null, (.ref a1)])) (fun _ k => XS.aloadN X0.here hx rfl (hb hby d11_1) rfl rfl k) ?_
  refine own_go (st' := s₁.setTop (mkF m 7 #[oR a1, .val .null, .unset] [])) (fun _ k => Jvm.RoadKit.acmp (g := (mkF m 2 #[oR a1, .val .null, .unset] [.null, (.ref a1)])) X0 hx rfl rfl rfl (pc0 := 2) (pc' := 7) (same := false) rfl (hb hby d11_2) rfl (decide_eq_false nofun) (by decide) (by decide) k) ?_
  refine own_go (st' := s₁.setTop (mkF m 8 #[oR a1, .val .null, .unset] [.null])) (fun _ k => XS.aloadN X0.here hx rfl (hb hby d11_7) rfl rfl k) ?_
  refine own_go (st' := s₁.setTop (mkF m 11 #[oR a1, .val .null, .unset] [(.int (0 : Int32))])) (X0.instanceofNull hx (g := (mkF m 8 #[oR a1, .val .null, .unset] [.null])) rfl rfl (hb hby d11_8)) ?_
  have hc1 : (0 : Int32) = (0 : Int32) := by decide
  refine own_go (st' := s₁.setTop (mkF m 54 #[oR a1, .val .null, .unset] [])) (fun _ k => XS.ifYes X0.here hx rfl (pc0 := 11) (pc' := 54) rfl (hb hby d11_11) rfl ((if0 _ _).trans (teq hc1).1) (by decide) (by decide) k) ?_
  refine own_go (st' := s₁.setTop (mkF m 55 #[oR a1, .val .null, .unset] [(.int (0 : Int32))])) (fun _ k => XS.iconst X0.here hx rfl (hb hby d11_54) k) ?_
  obtain ⟨fs, hr, hrun, hended, hW, hsame⟩ := X0.leave (v := some (.int (0 : Int32))) (fun h => by rw [Bd.returns] at h; cases h)
  refine ⟨_, _, ?_, hP _ _ hrun hended ⟨_, _, rfl, ?_, ⟨_, rfl⟩, hW, hsame.mono (by decide) (by decide)⟩⟩
  · exact retN X0 hx (t := .boolean) Bd.returns (by simp) (hb hby d11_55) hr
  · show Qrse_null Z a1 h0 n0 _ s₁.heap _
    rw [e0]
    exact ⟨rfl, N0, rfl⟩
theorem pd_5 : parseMethodDescriptor "([C)V" = some ⟨[(.array .char)], none⟩ := by decide +kernel
theorem d2_0 : decode method_4_code 0 = .ok (.iload_n 0, 1) := by decide +kernel
theorem d2_1 : decode method_4_code 1 = .ok (.ifCond .ne 14, 3) := by decide +kernel
theorem d2_4 : decode method_4_code 4 = .ok (.new 13, 3) := by decide +kernel
theorem d2_7 : decode method_4_code 7 = .ok (.dup, 1) := by decide +kernel
theorem d2_8 : decode method_4_code 8 = .ok (.iconst 0, 1) := by decide +kernel
theorem d2_9 : decode method_4_code 9 = .ok (.newarray .char, 2) := by decide +kernel
theorem d2_11 : decode method_4_code 11 = .ok (.invokespecial 15, 3) := by decide +kernel
theorem d2_14 : decode method_4_code 14 = .ok (.areturn, 1) := by decide +kernel
theorem pn_2 : plainName "com/example/scatterkeep/scatterkeep/protocol/VersionOfPinLaw" = true := by first | (simp [plainName, overriddenIn]; done) | decide +kernel
theorem ef_rmk_0 (m : MethodId) (x0 : Int32) (x1 : Int32) (x2 : Int32) (x3 : Int32) (x4 : Int32) : entryFrame m #[(.int x0), (.int x1), (.int x2), (.int x3), (.int x4)] 5 = mkF m 0 #[.val (.int x0), .val (.int x1), .val (.int x2), .val (.int x3), .val (.int x4)] [] := by first | (simp [entryFrame, mkF, argsToLocals, Value.category]; done) | rfl
def Qrmk_0 (Z : State) (zc : Int32) (u0 : Int32) (u1 : Int32) (u2 : Int32) (u3 : Int32) (h0 : Heap) (n0 : Nat) (v : Option Value) (h : Heap) (L : List Loc) : Prop := ∃ (a1 : Addr) (r : Addr) (kr : ClassId), (v = some (.ref a1)) ∧ (Fr n0 L) ∧ (Keep h0 h []) ∧ (Exa Z h a1 "java/lang/String") ∧ (Fld Z h a1 "java/lang/String" "value" "[B" (.ref r)) ∧ (Fld Z h a1 "java/lang/String" "coder" "B" (.int (0 : Int32))) ∧ (Arv Z h r kr .byte (0 : Int32) [] (.int (0 : Int32))) ∧ (h0.size ≤ a1)
set_option maxRecDepth 65536 in
set_option maxHeartbeats 40000000 in
theorem rmk_0 (l : Launch) (Z : State) (a0 : Array Value) (hw : ∀ d ∈ tables_1, d.before a0 Z = true) (ws : List Jvm.Cond) (zc : Int32) (u0 : Int32) (u1 : Int32) (u2 : Int32) (u3 : Int32) (h0 : Heap) (n0 : Nat) (Z0 : n0 ≤ h0.size) (pr1 : Sta Z h0 oS0 oS3 "Z" (.int zc)) (hzc : ¬ zc = (0 : Int32)) (hl_u0 : own_lat u0) (hl_u1 : own_lat u1) (hl_u2 : own_lat u2) (hl_u3 : own_lat u3) :
    MetFree l oM5 (head1 (Jvm.Cond.code oM5 method_4_code 5 (some (.object oS0)) :: ws) ({ frames := 3, cells := 4, slots := 8, locals := 43 } : Room)) (fun a U => a = #[(.int (0 : Int32)), (.int u0), (.int u1), (.int u2), (.int u3)] ∧ Z.Warmed39 U.vm ∧ U.heap = h0 ∧ CHv Z own_EL U.vm h0) (fun _ _ _ _ _ => True) (fun _ U o U' => ∃ v L, o = .returned v ∧ Qrmk_0 Z zc u0 u1 u2 u3 h0 n0 v U'.heap L ∧ CHr Z own_EL U.vm U.heap U'.vm U'.heap ∧ ReturnedEndW U o U' L ({ frames := 3, cells := 4, slots := 8, locals := 43 } : Room).cells ({ frames := 3, cells := 4, slots := 8, locals := 43 } : Room).slots) := by
  refine MetFree.of_bodySF (plainFor_of_name pn_2) hisR ?_
  intro p e s m args below meth c s₁ Bd hml0 hP0 hK
  obtain ⟨rfl, hZ, hh, hC0⟩ := hP0
  have hx := Bd.exec
  have hby := Bd.bytes
  have hml : c.maxLocals = 5 := hml0
  have hown : s.vm.findClass oS6 = some m.cls := findClass_of_methodNamed Bd.named
  have hnm := (name_of_methodNamed Bd.named Bd.method).1
  have X0 : Stand p l e ({ frames := 3, cells := 4, slots := 8, locals := 43 } : Room) (s.setVm s.vm) m #[(.int (0 : Int32)), (.int u0), (.int u1), (.int u2), (.int u3)] below meth c s₁ [] 0 0 := Stand.of_body Bd
  have hS0 : s.Since s.vm h0.size := (State.WarmedH.refl s).since _
  have hZ : Z.Warmed39 (s.setVm s.vm).vm := hZ
  have hown : (s.setVm s.vm).vm.findClass oS6 = some m.cls := hown
  have e0 : s₁.heap = h0 := by rw [← hh, Bd.state]; rfl
  have N0 := Fr.nil n0
  suffices own_H : ∀ (P : State → Outcome → Prop), (∀ U o, U.status = .running → Ended U below o → (∃ v L, o = .returned v ∧ Qrmk_0 Z zc u0 u1 u2 u3 h0 n0 v U.heap L ∧ CHr Z own_EL s.vm s.heap U.vm U.heap ∧ ReturnedEndW s o U L ({ frames := 3, cells := 4, slots := 8, locals := 43 } : Room).cells ({ frames := 3, cells := 4, slots := 8, locals := 43 } : Room).slots) → P U o) → own_Go p.tables e below P (s₁.setTop (mkF m 0 #[oi 0, oi u0, oi u1, oi u2, oi u3] [])) from own_go (fun _ k => castTop (ef_rmk_0 m (0 : Int32) u0 u1 u2 u3) k) (own_H _ (fun U o h1 h2 h3 => ⟨h1, h2, h3⟩))
  intro P hP
  have hEL : EW Z a0 own_EL := own_ew hw
  have A0 : CHr Z own_EL s.vm h0 s.vm h0 := CHr.refl hC0
  refine own_go (st' := s₁.setTop (mkF m 1 #[oi 0, oi u0, oi u1, oi u2, oi u3] [(.int (0 : Int32))])) (fun _ k => XS.iloadN X0.here hx rfl (hb hby d2_0) rfl k) ?_
  have hc1 : (0 : Int32) = (0 : Int32) := by decide
  refine own_go (st' := s₁.setTop (mkF m 4 #[oi 0, oi u0, oi u1, oi u2, oi u3] [])) (fun _ k => XS.ifNo X0.here hx rfl (hb hby d2_1) rfl ((if0 _ _).trans (teq hc1).2) k) ?_
  obtain ⟨T2, h2, X2, e2, E2, A2, D2, -, st2⟩ := newO X0 hx hZ hown (own_hw hw 7) (own_hw hw 8) (own_hw hw 9) e0 (g := (mkF m 4 #[oi 0, oi u0, oi u1, oi u2, oi u3] [])) rfl (hb hby d2_4) (by decide) (by decide)
  obtain ⟨b2, g2⟩ : ∃ z, z = h0.size := ⟨_, rfl⟩
  rw [← g2] at A2 D2 st2
  have sz2 : h0.size ≤ h2.size := E2.1
  have lt2 : @LT.lt Nat _ b2 h2.size := A2.lt
  have f3 : Fld Z h2 b2 oS0 "coder" "B" (.int (0 : Int32)) := D2 (Or.inr (own_hw hw 34)) (ty := .byte) (by decide)
  have f4 : Fld Z h2 b2 oS0 "value" "[B" .null := D2 (Or.inr (own_hw hw 36)) (ty := (.array .byte)) (by decide)
  refine own_go (st' := T2.setTop (mkF m 7 #[oi 0, oi u0, oi u1, oi u2, oi u3] [(.ref b2)])) (st2) ?_
  refine own_go (st' := T2.setTop (mkF m 8 #[oi 0, oi u0, oi u1, oi u2, oi u3] [(.ref b2), (.ref b2)])) (fun _ k => XS.dup X2.here hx rfl (hb hby d2_7) rfl rfl k) ?_
  refine own_go (st' := T2.setTop (mkF m 9 #[oi 0, oi u0, oi u1, oi u2, oi u3] [(.int (0 : Int32)), (.ref b2), (.ref b2)])) (fun _ k => XS.iconst X2.here hx rfl (hb hby d2_8) k) ?_
  obtain ⟨T5, h5, k5, X5, e5, E5, A5, st5⟩ := newP X2 hx hZ (own_hw hw 10) e2 (g := (mkF m 9 #[oi 0, oi u0, oi u1, oi u2, oi u3] [(.int (0 : Int32)), (.ref b2), (.ref b2)])) rfl (hb hby d2_9) rfl (by decide) (cap := 0) (by decide) (by decide) (by decide) (by decide)
  obtain ⟨b5, g5⟩ : ∃ z, z = h2.size := ⟨_, rfl⟩
  rw [← g5] at A5 st5
  have sz5 : h2.size ≤ h5.size := E5.1
  have lt5 : @LT.lt Nat _ b5 h5.size := A5.lt
  have v5 : Arv Z h5 b5 k5 .char (0 : Int32) [] (.int (0 : Int32)) := (Arv.new A5 (by decide)).pad (pad_rep [] (.int (0 : Int32)) 0)
  refine own_go (st' := T5.setTop (mkF m 11 #[oi 0, oi u0, oi u1, oi u2, oi u3] [(.ref b5), (.ref b2), (.ref b2)])) (st5) ?_
  have c7 : Exa Z h5 b2 oS0 := (A2.ext E5)
  have c8 : Fld Z h5 b2 oS0 "value" "[B" .null := (f4.ext E5)
  have c9 : Fld Z h5 b2 oS0 "coder" "B" (.int (0 : Int32)) := (f3.ext E5)
  have KA10 : Keep h0 h5 [] := (((Keep.refl h0 []).ext E2).ext E5)
  have AS10 := CHr.keep (EL := own_EL) KA10 all0 A0.1
  have AA11 := A0.trans AS10
  obtain ⟨_, _, ⟨T6, LC6, kC6, nC6⟩, -, X6, hS6, hg6, ⟨Lc6, hQ6, lq6, yq6, zq6, CR6⟩, st6⟩ := X5.specialBackS hx (y := oM3) rfl hown (mvT hZ (own_hw hw 11)) (mvT hZ (own_hw hw 12)) (mvT hZ (own_hw hw 13)) (by decide) (backOfSH (W := 1) (rsc_0 l Z a0 hw [] b2 b5 k5 h5 n0 (by omega) c7 c8 c9 v5 (by omega)) hZ (own_hw hw 13) (own_hw hw 9) (by decide) (by decide) hEL AA11.1) (g := (mkF m 11 #[oi 0, oi u0, oi u1, oi u2, oi u3] [(.ref b5), (.ref b2), (.ref b2)])) rfl (by rw [hml]; rfl) (Steps.refl _) (a := b2) (argsL := [(.ref b5)]) (rest := [(.ref b2)]) (lenOf pd_5 rfl) rfl (by show 2 * 0 + _ ≤ _; exact Nat.le_of_eq rfl) (hb hby d2_11) (fun _ _ => ⟨rfl, e5, (by decide : 2 + 2 ≤ _), (by decide : 4 + 4 ≤ _)⟩)
  dsimp only [Pt.U, Pt.locs, Pt.cells, Pt.slots] at X6 lq6 yq6 zq6 st6 hQ6
  subst lq6 yq6 zq6
  dsimp only [Pt.U, Pt.locs, Pt.cells, Pt.slots] at hS6 hg6 CR6
  obtain ⟨X6, hS6, hZ, hown⟩ := rebS hS0 (by rw [e5]; omega) X6 hS6 hg6 hZ hown
  obtain ⟨h6, e6⟩ : ∃ z, T6.heap = z := ⟨_, rfl⟩
  rw [e6] at hQ6 hS6
  obtain ⟨r_6, kr_6, rfl, Nq6, K6, g6_0, g6_1, g6_2, g6_3⟩ := hQ6
  have sz6 : h5.size ≤ h6.size := K6.1
  rw [e6] at CR6
  have AA12 := AA11.trans CR6
  have N6 := Fr.app N0 Nq6
  have lt6_1 : @LT.lt Nat _ b2 h6.size := g6_0.lt
  have lt6_2 : @LT.lt Nat _ r_6 h6.size := g6_3.lt
  have ap13 : @Ne Nat b2 r_6 := own_ne_oa (own_hw hw 8) g6_0 g6_3
  refine own_go (st' := T6.setTop (mkF m 14 #[oi 0, oi u0, oi u1, oi u2, oi u3] [(.ref b2)])) (fun _ k => st6.trans k) ?_
  obtain ⟨fs, hr, hrun, hended, hR1, hR2, hR3, hR4⟩ := X6.leaveW hS6 (by rw [e6]; omega) (v := some (.ref b2)) (fun h => by rw [Bd.returns] at h; cases h)
  refine ⟨_, _, ?_, hP _ _ hrun hended ⟨_, _, rfl, ?_, (by rw [hh]; show CHr Z own_EL s.vm h0 T6.vm T6.heap; rw [e6]; exact AA12.trans (CHv.at X6 hZ hEL AA12.1)), hR1, hR2, hR3, hR4.mono (by decide) (by decide)⟩⟩
  · exact retOut X6 hx Bd.returns rfl (Or.inr (Or.inr (Or.inr (Or.inr ⟨rfl, rfl, rfl⟩)))) (hb hby d2_14) hr
  · show Qrmk_0 Z zc u0 u1 u2 u3 h0 n0 _ T6.heap _
    rw [e6]
    exact ⟨b2, r_6, kr_6, rfl, N6, ((((Keep.refl h0 []).ext E2).ext E5).trans K6 (allS (P := fun x => x ∈ [] ∨ h0.size ≤ x) (Or.inr (by omega)) all0)), g6_0, g6_1, g6_2, g6_3, (by omega)⟩
theorem d2_15 : decode method_4_code 15 = .ok (.iload_n 0, 1) := by decide +kernel
theorem d2_16 : decode method_4_code 16 = .ok (.iconst 1, 1) := by decide +kernel
theorem d2_17 : decode method_4_code 17 = .ok (.if_icmp .ne 18, 3) := by decide +kernel
theorem d2_20 : decode method_4_code 20 = .ok (.new 13, 3) := by decide +kernel
theorem d2_23 : decode method_4_code 23 = .ok (.dup, 1) := by decide +kernel
theorem d2_24 : decode method_4_code 24 = .ok (.iconst 1, 1) := by decide +kernel
theorem d2_25 : decode method_4_code 25 = .ok (.newarray .char, 2) := by decide +kernel
theorem d2_27 : decode method_4_code 27 = .ok (.dup, 1) := by decide +kernel
theorem d2_28 : decode method_4_code 28 = .ok (.iconst 0, 1) := by decide +kernel
theorem d2_29 : decode method_4_code 29 = .ok (.iload_n 1, 1) := by decide +kernel
theorem d2_30 : decode method_4_code 30 = .ok (.castore, 1) := by decide +kernel
theorem d2_31 : decode method_4_code 31 = .ok (.invokespecial 15, 3) := by decide +kernel
theorem d2_34 : decode method_4_code 34 = .ok (.areturn, 1) := by decide +kernel
theorem ef_rmk_1 (m : MethodId) (x0 : Int32) (x1 : Int32) (x2 : Int32) (x3 : Int32) (x4 : Int32) : entryFrame m #[(.int x0), (.int x1), (.int x2), (.int x3), (.int x4)] 5 = mkF m 0 #[.val (.int x0), .val (.int x1), .val (.int x2), .val (.int x3), .val (.int x4)] [] := by first | (simp [entryFrame, mkF, argsToLocals, Value.category]; done) | rfl
def Qrmk_1 (Z : State) (zc : Int32) (u0 : Int32) (u1 : Int32) (u2 : Int32) (u3 : Int32) (h0 : Heap) (n0 : Nat) (v : Option Value) (h : Heap) (L : List Loc) : Prop := ∃ (a1 : Addr) (r : Addr) (kr : ClassId), (v = some (.ref a1)) ∧ (Fr n0 L) ∧ (Keep h0 h []) ∧ (Exa Z h a1 "java/lang/String") ∧ (Fld Z h a1 "java/lang/String" "value" "[B" (.ref r)) ∧ (Fld Z h a1 "java/lang/String" "coder" "B" (.int (0 : Int32))) ∧ (Arv Z h r kr .byte (1 : Int32) [(.int (own_by u0))] (.int (0 : Int32))) ∧ (h0.size ≤ a1)
set_option maxRecDepth 65536 in
set_option maxHeartbeats 40000000 in
theorem rmk_1 (l : Launch) (Z : State) (a0 : Array Value) (hw : ∀ d ∈ tables_1, d.before a0 Z = true) (ws : List Jvm.Cond) (zc : Int32) (u0 : Int32) (u1 : Int32) (u2 : Int32) (u3 : Int32) (h0 : Heap) (n0 : Nat) (Z0 : n0 ≤ h0.size) (pr1 : Sta Z h0 oS0 oS3 "Z" (.int zc)) (hzc : ¬ zc = (0 : Int32)) (hl_u0 : own_lat u0) (hl_u1 : own_lat u1) (hl_u2 : own_lat u2) (hl_u3 : own_lat u3) :
    MetFree l oM5 (head1 (Jvm.Cond.code oM5 method_4_code 5 (some (.object oS0)) :: ws) ({ frames := 4, cells := 3, slots := 6, locals := 66 } : Room)) (fun a U => a = #[(.int (1 : Int32)), (.int u0), (.int u1), (.int u2), (.int u3)] ∧ Z.Warmed39 U.vm ∧ U.heap = h0) (fun _ _ _ _ _ => True) (fun _ U o U' => ∃ v L, o = .returned v ∧ Qrmk_1 Z zc u0 u1 u2 u3 h0 n0 v U'.heap L ∧ FrameEnd U o U' L ({ frames := 4, cells := 3, slots := 6, locals := 66 } : Room).cells ({ frames := 4, cells := 3, slots := 6, locals := 66 } : Room).slots) := by
  refine MetFree.of_bodySF (plainFor_of_name pn_2) hisR ?_
  intro p e s m args below meth c s₁ Bd hml0 hP0 hK
  obtain ⟨rfl, hZ, hh⟩ := hP0
  have hx := Bd.exec
  have hby := Bd.bytes
  have hml : c.maxLocals = 5 := hml0
  have hown : s.vm.findClass oS6 = some m.cls := findClass_of_methodNamed Bd.named
  have hnm := (name_of_methodNamed Bd.named Bd.method).1
  have X0 : Stand p l e ({ frames := 4, cells := 3, slots := 6, locals := 66 } : Room) s m #[(.int (1 : Int32)), (.int u0), (.int u1), (.int u2), (.int u3)] below meth c s₁ [] 0 0 := Stand.of_body Bd
  have e0 : s₁.heap = h0 := by rw [← hh, Bd.state]; rfl
  have N0 := Fr.nil n0
  suffices own_H : ∀ (P : State → Outcome → Prop), (∀ U o, U.status = .running → Ended U below o → (∃ v L, o = .returned v ∧ Qrmk_1 Z zc u0 u1 u2 u3 h0 n0 v U.heap L ∧ FrameEnd s o U L ({ frames := 4, cells := 3, slots := 6, locals := 66 } : Room).cells ({ frames := 4, cells := 3, slots := 6, locals := 66 } : Room).slots) → P U o) → own_Go p.tables e below P (s₁.setTop (mkF m 0 #[oi 1, oi u0, oi u1, oi u2, oi u3] [])) from own_go (fun _ k => castTop (ef_rmk_1 m (1 : Int32) u0 u1 u2 u3) k) (own_H _ (fun U o h1 h2 h3 => ⟨h1, h2, h3⟩))
  intro P hP
  refine own_go (st' := s₁.setTop (mkF m 1 #[oi 1, oi u0, oi u1, oi u2, oi u3] [(.int (1 : Int32))])) (fun _ k => XS.iloadN X0.here hx rfl (hb hby d2_0) rfl k) ?_
  have hc1 : ¬ ((1 : Int32) = (0 : Int32)) := by decide
  refine own_go (st' := s₁.setTop (mkF m 15 #[oi 1, oi u0, oi u1, oi u2, oi u3] [])) (fun _ k => XS.ifYes X0.here hx rfl (pc0 := 1) (pc' := 15) rfl (hb hby d2_1) rfl ((if0 _ _).trans (feq hc1).2) (by decide) (by decide) k) ?_
  refine own_go (st' := s₁.setTop (mkF m 16 #[oi 1, oi u0, oi u1, oi u2, oi u3] [(.int (1 : Int32))])) (fun _ k => XS.iloadN X0.here hx rfl (hb hby d2_15) rfl k) ?_
  refine own_go (st' := s₁.setTop (mkF m 17 #[oi 1, oi u0, oi u1, oi u2, oi u3] [(.int (1 : Int32)), (.int (1 : Int32))])) (fun _ k => XS.iconst X0.here hx rfl (hb hby d2_16) k) ?_
  have hc2 : (1 : Int32) = (1 : Int32) := by decide
  refine own_go (st' := s₁.setTop (mkF m 20 #[oi 1, oi u0, oi u1, oi u2, oi u3] [])) (fun _ k => XS.icmpNo X0.here hx rfl (hb hby d2_17) rfl (teq hc2).2 k) ?_
  obtain ⟨T3, h3, X3, e3, E3, A3, D3, -, st3⟩ := newO X0 hx hZ hown (own_hw hw 7) (own_hw hw 8) (own_hw hw 9) e0 (g := (mkF m 20 #[oi 1, oi u0, oi u1, oi u2, oi u3] [])) rfl (hb hby d2_20) (by decide) (by decide)
  obtain ⟨b3, g3⟩ : ∃ z, z = h0.size := ⟨_, rfl⟩
  rw [← g3] at A3 D3 st3
  have sz3 : h0.size ≤ h3.size := E3.1
  have lt3 : @LT.lt Nat _ b3 h3.size := A3.lt
  have f4 : Fld Z h3 b3 oS0 "coder" "B" (.int (0 : Int32)) := D3 (Or.inr (own_hw hw 34)) (ty := .byte) (by decide)
  have f5 : Fld Z h3 b3 oS0 "value" "[B" .null := D3 (Or.inr (own_hw hw 36)) (ty := (.array .byte)) (by decide)
  refine own_go (st' := T3.setTop (mkF m 23 #[oi 1, oi u0, oi u1, oi u2, oi u3] [(.ref b3)])) (st3) ?_
  refine own_go (st' := T3.setTop (mkF m 24 #[oi 1, oi u0, oi u1, oi u2, oi u3] [(.ref b3), (.ref b3)])) (fun _ k => XS.dup X3.here hx rfl (hb hby d2_23) rfl rfl k) ?_
  refine own_go (st' := T3.setTop (mkF m 25 #[oi 1, oi u0, oi u1, oi u2, oi u3] [(.int (1 : Int32)), (.ref b3), (.ref b3)])) (fun _ k => XS.iconst X3.here hx rfl (hb hby d2_24) k) ?_
  obtain ⟨T6, h6, k6, X6, e6, E6, A6, st6⟩ := newP X3 hx hZ (own_hw hw 10) e3 (g := (mkF m 25 #[oi 1, oi u0, oi u1, oi u2, oi u3] [(.int (1 : Int32)), (.ref b3), (.ref b3)])) rfl (hb hby d2_25) rfl (by decide) (cap := 1) (by decide) (by decide) (by decide) (by decide)
  obtain ⟨b6, g6⟩ : ∃ z, z = h3.size := ⟨_, rfl⟩
  rw [← g6] at A6 st6
  have sz6 : h3.size ≤ h6.size := E6.1
  have lt6 : @LT.lt Nat _ b6 h6.size := A6.lt
  have v6 : Arv Z h6 b6 k6 .char (1 : Int32) [(.int (0 : Int32))] (.int (0 : Int32)) := (Arv.new A6 (by decide)).pad (pad_rep [] (.int (0 : Int32)) 1)
  refine own_go (st' := T6.setTop (mkF m 27 #[oi 1, oi u0, oi u1, oi u2, oi u3] [(.ref b6), (.ref b3), (.ref b3)])) (st6) ?_
  refine own_go (st' := T6.setTop (mkF m 28 #[oi 1, oi u0, oi u1, oi u2, oi u3] [(.ref b6), (.ref b6), (.ref b3), (.ref b3)])) (fun _ k => XS.dup X6.here hx rfl (hb hby d2_27) rfl rfl k) ?_
  refine own_go (st' := T6.setTop (mkF m 29 #[oi 1, oi u0, oi u1, oi u2, oi u3] [(.int (0 : Int32)), (.ref b6), (.ref b6), (.ref b3), (.ref b3)])) (fun _ k => XS.iconst X6.here hx rfl (hb hby d2_28) k) ?_
  refine own_go (st' := T6.setTop (mkF m 30 #[oi 1, oi u0, oi u1, oi u2, oi u3] [(.int u0), (.int (0 : Int32)), (.ref b6), (.ref b6), (.ref b3), (.ref b3)])) (fun _ k => XS.iloadN X6.here hx rfl (hb hby d2_29) rfl k) ?_
  obtain ⟨cl7, Ar7, qc7, S7, M7, H7, G7⟩ := id v6
  have hin7 : ¬ ((0 : Int32) < 0 ∨ cl7.slots.size ≤ ((0 : Int32)).toNatClampNeg) := (inb_of S7 ⟨by decide, by decide⟩)
  obtain ⟨T7, h7, X7, e7, W7, st7⟩ := stC X6 hx hZ e6 Ar7 (j := (0 : Int32)) hin7 (g := (mkF m 30 #[oi 1, oi u0, oi u1, oi u2, oi u3] [(.int u0), (.int (0 : Int32)), (.ref b6), (.ref b6), (.ref b3), (.ref b3)])) rfl rfl (hb hby d2_30)
  have sz7 : h7.size = h6.size := W7.size
  have N7 := Fr.snoc X7 N0 (by omega)
  have v7 : Arv Z h7 b6 k6 .char (1 : Int32) [(.int (nar .char u0))] (.int (0 : Int32)) := Arv.set Ar7 qc7 S7 M7 H7 G7 (fits_nar_char _) W7 0 rfl (Nat.le_of_ble_eq_true rfl)
  refine own_go (st' := T7.setTop (mkF m 31 #[oi 1, oi u0, oi u1, oi u2, oi u3] [(.ref b6), (.ref b3), (.ref b3)])) (st7) ?_
  have v8 : Arv Z h7 b6 k6 .char (1 : Int32) [(.int u0)] (.int (0 : Int32)) := by rw [own_lat_ch hl_u0] at v7; exact v7
  have c10 : Exa Z h7 b3 oS0 := ((A3.ext E6).wr W7)
  have c11 : Fld Z h7 b3 oS0 "value" "[B" .null := ((f5.ext E6).other W7 (Or.inl (own_ne (by omega))))
  have c12 : Fld Z h7 b3 oS0 "coder" "B" (.int (0 : Int32)) := ((f4.ext E6).other W7 (Or.inl (own_ne (by omega))))
  have c13 : Sta Z h7 oS0 oS3 "Z" (.int zc) := (((pr1.ext E3).ext E6).wr W7)
  obtain ⟨_, _, ⟨T9, LC9, kC9, nC9⟩, -, X9, ⟨Lc9, hQ9, lq9, yq9, zq9⟩, st9⟩ := X7.specialBack hx (y := oM3) rfl hown (mvT hZ (own_hw hw 11)) (mvT hZ (own_hw hw 12)) (mvT hZ (own_hw hw 13)) (by decide) (backOf (W := 1) (rsc_1 l Z a0 hw [] b3 b6 k6 zc u0 h7 n0 (by omega) c10 c11 c12 v8 c13 (by assumption) hl_u0 (by omega) (own_ne (by omega))) hZ (own_hw hw 13) (own_hw hw 9) (by decide) (by decide)) (g := (mkF m 31 #[oi 1, oi u0, oi u1, oi u2, oi u3] [(.ref b6), (.ref b3), (.ref b3)])) rfl (by rw [hml]; rfl) (Steps.refl _) (a := b3) (argsL := [(.ref b6)]) (rest := [(.ref b3)]) (lenOf pd_5 rfl) rfl (by show 2 * 0 + _ ≤ _; exact Nat.le_of_eq rfl) (hb hby d2_31) (fun _ _ => ⟨rfl, e7, (by decide : 2 + 1 ≤ _), (by decide : 5 + 1 ≤ _)⟩)
  dsimp only [Pt.U, Pt.locs, Pt.cells, Pt.slots] at X9 lq9 yq9 zq9 st9 hQ9
  subst lq9 yq9 zq9
  obtain ⟨h9, e9⟩ : ∃ z, T9.heap = z := ⟨_, rfl⟩
  rw [e9] at hQ9
  obtain ⟨r_9, kr_9, rfl, Nq9, K9, g9_0, g9_1, g9_2, g9_3, g9_4⟩ := hQ9
  have sz9 : h7.size ≤ h9.size := K9.1
  have N9 := Fr.app N7 Nq9
  have lt9_1 : @LT.lt Nat _ b3 h9.size := g9_0.lt
  have lt9_2 : @LT.lt Nat _ r_9 h9.size := g9_3.lt
  refine own_go (st' := T9.setTop (mkF m 34 #[oi 1, oi u0, oi u1, oi u2, oi u3] [(.ref b3)])) (fun _ k => st9.trans k) ?_
  obtain ⟨fs, hr, hrun, hended, hW, hsame⟩ := X9.leave (v := some (.ref b3)) (fun h => by rw [Bd.returns] at h; cases h)
  refine ⟨_, _, ?_, hP _ _ hrun hended ⟨_, _, rfl, ?_, ⟨_, rfl⟩, hW, hsame.mono (by decide) (by decide)⟩⟩
  · exact retOut X9 hx Bd.returns rfl (Or.inr (Or.inr (Or.inr (Or.inr ⟨rfl, rfl, rfl⟩)))) (hb hby d2_34) hr
  · show Qrmk_1 Z zc u0 u1 u2 u3 h0 n0 _ T9.heap _
    rw [e9]
    exact ⟨b3, r_9, kr_9, rfl, N9, (((((Keep.refl h0 []).ext E3).ext E6).wr W7 (Or.inr (by omega))).trans K9 (allS (P := fun x => x ∈ [] ∨ h0.size ≤ x) (Or.inr (by omega)) all0)), g9_0, g9_1, g9_2, g9_3, (by omega)⟩
theorem d2_35 : decode method_4_code 35 = .ok (.iload_n 0, 1) := by decide +kernel
theorem d2_36 : decode method_4_code 36 = .ok (.iconst 2, 1) := by decide +kernel
theorem d2_37 : decode method_4_code 37 = .ok (.if_icmp .ne 22, 3) := by decide +kernel
theorem d2_40 : decode method_4_code 40 = .ok (.new 13, 3) := by decide +kernel
theorem d2_43 : decode method_4_code 43 = .ok (.dup, 1) := by decide +kernel
theorem d2_44 : decode method_4_code 44 = .ok (.iconst 2, 1) := by decide +kernel
theorem d2_45 : decode method_4_code 45 = .ok (.newarray .char, 2) := by decide +kernel
theorem d2_47 : decode method_4_code 47 = .ok (.dup, 1) := by decide +kernel
theorem d2_48 : decode method_4_code 48 = .ok (.iconst 0, 1) := by decide +kernel
theorem d2_49 : decode method_4_code 49 = .ok (.iload_n 1, 1) := by decide +kernel
theorem d2_50 : decode method_4_code 50 = .ok (.castore, 1) := by decide +kernel
theorem d2_51 : decode method_4_code 51 = .ok (.dup, 1) := by decide +kernel
theorem d2_52 : decode method_4_code 52 = .ok (.iconst 1, 1) := by decide +kernel
theorem d2_53 : decode method_4_code 53 = .ok (.iload_n 2, 1) := by decide +kernel
theorem d2_54 : decode method_4_code 54 = .ok (.castore, 1) := by decide +kernel
theorem d2_55 : decode method_4_code 55 = .ok (.invokespecial 15, 3) := by decide +kernel
theorem d2_58 : decode method_4_code 58 = .ok (.areturn, 1) := by decide +kernel
theorem ef_rmk_2 (m : MethodId) (x0 : Int32) (x1 : Int32) (x2 : Int32) (x3 : Int32) (x4 : Int32) : entryFrame m #[(.int x0), (.int x1), (.int x2), (.int x3), (.int x4)] 5 = mkF m 0 #[.val (.int x0), .val (.int x1), .val (.int x2), .val (.int x3), .val (.int x4)] [] := by first | (simp [entryFrame, mkF, argsToLocals, Value.category]; done) | rfl
def Qrmk_2 (Z : State) (zc : Int32) (u0 : Int32) (u1 : Int32) (u2 : Int32) (u3 : Int32) (h0 : Heap) (n0 : Nat) (v : Option Value) (h : Heap) (L : List Loc) : Prop := ∃ (a1 : Addr) (r : Addr) (kr : ClassId), (v = some (.ref a1)) ∧ (Fr n0 L) ∧ (Keep h0 h []) ∧ (Exa Z h a1 "java/lang/String") ∧ (Fld Z h a1 "java/lang/String" "value" "[B" (.ref r)) ∧ (Fld Z h a1 "java/lang/String" "coder" "B" (.int (0 : Int32))) ∧ (Arv Z h r kr .byte (2 : Int32) [(.int (own_by u0)), (.int (own_by u1))] (.int (0 : Int32))) ∧ (h0.size ≤ a1)
set_option maxRecDepth 65536 in
set_option maxHeartbeats 40000000 in
theorem rmk_2 (l : Launch) (Z : State) (a0 : Array Value) (hw : ∀ d ∈ tables_1, d.before a0 Z = true) (ws : List Jvm.Cond) (zc : Int32) (u0 : Int32) (u1 : Int32) (u2 : Int32) (u3 : Int32) (h0 : Heap) (n0 : Nat) (Z0 : n0 ≤ h0.size) (pr1 : Sta Z h0 oS0 oS3 "Z" (.int zc)) (hzc : ¬ zc = (0 : Int32)) (hl_u0 : own_lat u0) (hl_u1 : own_lat u1) (hl_u2 : own_lat u2) (hl_u3 : own_lat u3) :
    MetFree l oM5 (head1 (Jvm.Cond.code oM5 method_4_code 5 (some (.object oS0)) :: ws) ({ frames := 4, cells := 3, slots := 8, locals := 66 } : Room)) (fun a U => a = #[(.int (2 : Int32)), (.int u0), (.int u1), (.int u2), (.int u3)] ∧ Z.Warmed39 U.vm ∧ U.heap = h0) (fun _ _ _ _ _ => True) (fun _ U o U' => ∃ v L, o = .returned v ∧ Qrmk_2 Z zc u0 u1 u2 u3 h0 n0 v U'.heap L ∧ FrameEnd U o U' L ({ frames := 4, cells := 3, slots := 8, locals := 66 } : Room).cells ({ frames := 4, cells := 3, slots := 8, locals := 66 } : Room).slots) := by
  refine MetFree.of_bodySF (plainFor_of_name pn_2) hisR ?_
  intro p e s m args below meth c s₁ Bd hml0 hP0 hK
  obtain ⟨rfl, hZ, hh⟩ := hP0
  have hx := Bd.exec
  have hby := Bd.bytes
  have hml : c.maxLocals = 5 := hml0
  have hown : s.vm.findClass oS6 = some m.cls := findClass_of_methodNamed Bd.named
  have hnm := (name_of_methodNamed Bd.named Bd.method).1
  have X0 : Stand p l e ({ frames := 4, cells := 3, slots := 8, locals := 66 } : Room) s m #[(.int (2 : Int32)), (.int u0), (.int u1), (.int u2), (.int u3)] below meth c s₁ [] 0 0 := Stand.of_body Bd
  have e0 : s₁.heap = h0 := by rw [← hh, Bd.state]; rfl
  have N0 := Fr.nil n0
  suffices own_H : ∀ (P : State → Outcome → Prop), (∀ U o, U.status = .running → Ended U below o → (∃ v L, o = .returned v ∧ Qrmk_2 Z zc u0 u1 u2 u3 h0 n0 v U.heap L ∧ FrameEnd s o U L ({ frames := 4, cells := 3, slots := 8, locals := 66 } : Room).cells ({ frames := 4, cells := 3, slots := 8, locals := 66 } : Room).slots) → P U o) → own_Go p.tables e below P (s₁.setTop (mkF m 0 #[oi 2, oi u0, oi u1, oi u2, oi u3] [])) from own_go (fun _ k => castTop (ef_rmk_2 m (2 : Int32) u0 u1 u2 u3) k) (own_H _ (fun U o h1 h2 h3 => ⟨h1, h2, h3⟩))
  intro P hP
  refine own_go (st' := s₁.setTop (mkF m 1 #[oi 2, oi u0, oi u1, oi u2, oi u3] [(.int (2 : Int32))])) (fun _ k => XS.iloadN X0.here hx rfl (hb hby d2_0) rfl k) ?_
  have hc1 : ¬ ((2 : Int32) = (0 : Int32)) := by decide
  refine own_go (st' := s₁.setTop (mkF m 15 #[oi 2, oi u0, oi u1, oi u2, oi u3] [])) (fun _ k => XS.ifYes X0.here hx rfl (pc0 := 1) (pc' := 15) rfl (hb hby d2_1) rfl ((if0 _ _).trans (feq hc1).2) (by decide) (by decide) k) ?_
  refine own_go (st' := s₁.setTop (mkF m 16 #[oi 2, oi u0, oi u1, oi u2, oi u3] [(.int (2 : Int32))])) (fun _ k => XS.iloadN X0.here hx rfl (hb hby d2_15) rfl k) ?_
  refine own_go (st' := s₁.setTop (mkF m 17 #[oi 2, oi u0, oi u1, oi u2, oi u3] [(.int (1 : Int32)), (.int (2 : Int32))])) (fun _ k => XS.iconst X0.here hx rfl (hb hby d2_16) k) ?_
  have hc2 : ¬ ((2 : Int32) = (1 : Int32)) := by decide
  refine own_go (st' := s₁.setTop (mkF m 35 #[oi 2, oi u0, oi u1, oi u2, oi u3] [])) (fun _ k => XS.icmpYes X0.here hx rfl (pc0 := 17) (pc' := 35) rfl (hb hby d2_17) rfl (feq hc2).2 (by decide) (by decide) k) ?_
  refine own_go (st' := s₁.setTop (mkF m 36 #[oi 2, oi u0, oi u1, oi u2, oi u3] [(.int (2 : Int32))])) (fun _ k => XS.iloadN X0.here hx rfl (hb hby d2_35) rfl k) ?_
  refine own_go (st' := s₁.setTop (mkF m 37 #[oi 2, oi u0, oi u1, oi u2, oi u3] [(.int (2 : Int32)), (.int (2 : Int32))])) (fun _ k => XS.iconst X0.here hx rfl (hb hby d2_36) k) ?_
  have hc3 : (2 : Int32) = (2 : Int32) := by decide
  refine own_go (st' := s₁.setTop (mkF m 40 #[oi 2, oi u0, oi u1, oi u2, oi u3] [])) (fun _ k => XS.icmpNo X0.here hx rfl (hb hby d2_37) rfl (teq hc3).2 k) ?_
  obtain ⟨T4, h4, X4, e4, E4, A4, D4, -, st4⟩ := newO X0 hx hZ hown (own_hw hw 7) (own_hw hw 8) (own_hw hw 9) e0 (g := (mkF m 40 #[oi 2, oi u0, oi u1, oi u2, oi u3] [])) rfl (hb hby d2_40) (by decide) (by decide)
  obtain ⟨b4, g4⟩ : ∃ z, z = h0.size := ⟨_, rfl⟩
  rw [← g4] at A4 D4 st4
  have sz4 : h0.size ≤ h4.size := E4.1
  have lt4 : @LT.lt Nat _ b4 h4.size := A4.lt
  have f5 : Fld Z h4 b4 oS0 "coder" "B" (.int (0 : Int32)) := D4 (Or.inr (own_hw hw 34)) (ty := .byte) (by decide)
  have f6 : Fld Z h4 b4 oS0 "value" "[B" .null := D4 (Or.inr (own_hw hw 36)) (ty := (.array .byte)) (by decide)
  refine own_go (st' := T4.setTop (mkF m 43 #[oi 2, oi u0, oi u1, oi u2, oi u3] [(.ref b4)])) (st4) ?_
  refine own_go (st' := T4.setTop (mkF m 44 #[oi 2, oi u0, oi u1, oi u2, oi u3] [(.ref b4), (.ref b4)])) (fun _ k => XS.dup X4.here hx rfl (hb hby d2_43) rfl rfl k) ?_
  refine own_go (st' := T4.setTop (mkF m 45 #[oi 2, oi u0, oi u1, oi u2, oi u3] [(.int (2 : Int32)), (.ref b4), (.ref b4)])) (fun _ k => XS.iconst X4.here hx rfl (hb hby d2_44) k) ?_
  obtain ⟨T7, h7, k7, X7, e7, E7, A7, st7⟩ := newP X4 hx hZ (own_hw hw 10) e4 (g := (mkF m 45 #[oi 2, oi u0, oi u1, oi u2, oi u3] [(.int (2 : Int32)), (.ref b4), (.ref b4)])) rfl (hb hby d2_45) rfl (by decide) (cap := 2) (by decide) (by decide) (by decide) (by decide)
  obtain ⟨b7, g7⟩ : ∃ z, z = h4.size := ⟨_, rfl⟩
  rw [← g7] at A7 st7
  have sz7 : h4.size ≤ h7.size := E7.1
  have lt7 : @LT.lt Nat _ b7 h7.size := A7.lt
  have v7 : Arv Z h7 b7 k7 .char (2 : Int32) [(.int (0 : Int32)), (.int (0 : Int32))] (.int (0 : Int32)) := (Arv.new A7 (by decide)).pad (pad_rep [] (.int (0 : Int32)) 2)
  refine own_go (st' := T7.setTop (mkF m 47 #[oi 2, oi u0, oi u1, oi u2, oi u3] [(.ref b7), (.ref b4), (.ref b4)])) (st7) ?_
  refine own_go (st' := T7.setTop (mkF m 48 #[oi 2, oi u0, oi u1, oi u2, oi u3] [(.ref b7), (.ref b7), (.ref b4), (.ref b4)])) (fun _ k => XS.dup X7.here hx rfl (hb hby d2_47) rfl rfl k) ?_
  refine own_go (st' := T7.setTop (mkF m 49 #[oi 2, oi u0, oi u1, oi u2, oi u3] [(.int (0 : Int32)), (.ref b7), (.ref b7), (.ref b4), (.ref b4)])) (fun _ k => XS.iconst X7.here hx rfl (hb hby d2_48) k) ?_
  refine own_go (st' := T7.setTop (mkF m 50 #[oi 2, oi u0, oi u1, oi u2, oi u3] [(.int u0), (.int (0 : Int32)), (.ref b7), (.ref b7), (.ref b4), (.ref b4)])) (fun _ k => XS.iloadN X7.here hx rfl (hb hby d2_49) rfl k) ?_
  obtain ⟨cl8, Ar8, qc8, S8, M8, H8, G8⟩ := id v7
  have hin8 : ¬ ((0 : Int32) < 0 ∨ cl8.slots.size ≤ ((0 : Int32)).toNatClampNeg) := (inb_of S8 ⟨by decide, by decide⟩)
  obtain ⟨T8, h8, X8, e8, W8, st8⟩ := stC X7 hx hZ e7 Ar8 (j := (0 : Int32)) hin8 (g := (mkF m 50 #[oi 2, oi u0, oi u1, oi u2, oi u3] [(.int u0), (.int (0 : Int32)), (.ref b7), (.ref b7), (.ref b4), (.ref b4)])) rfl rfl (hb hby d2_50)
  have sz8 : h8.size = h7.size := W8.size
  have N8 := Fr.snoc X8 N0 (by omega)
  have v8 : Arv Z h8 b7 k7 .char (2 : Int32) [(.int (nar .char u0)), (.int (0 : Int32))] (.int (0 : Int32)) := Arv.set Ar8 qc8 S8 M8 H8 G8 (fits_nar_char _) W8 0 rfl (Nat.le_of_ble_eq_true rfl)
  refine own_go (st' := T8.setTop (mkF m 51 #[oi 2, oi u0, oi u1, oi u2, oi u3] [(.ref b7), (.ref b4), (.ref b4)])) (st8) ?_
  refine own_go (st' := T8.setTop (mkF m 52 #[oi 2, oi u0, oi u1, oi u2, oi u3] [(.ref b7), (.ref b7), (.ref b4), (.ref b4)])) (fun _ k => XS.dup X8.here hx rfl (hb hby d2_51) rfl rfl k) ?_
  refine own_go (st' := T8.setTop (mkF m 53 #[oi 2, oi u0, oi u1, oi u2, oi u3] [(.int (1 : Int32)), (.ref b7), (.ref b7), (.ref b4), (.ref b4)])) (fun _ k => XS.iconst X8.here hx rfl (hb hby d2_52) k) ?_
  refine own_go (st' := T8.setTop (mkF m 54 #[oi 2, oi u0, oi u1, oi u2, oi u3] [(.int u1), (.int (1 : Int32)), (.ref b7), (.ref b7), (.ref b4), (.ref b4)])) (fun _ k => XS.iloadN X8.here hx rfl (hb hby d2_53) rfl k) ?_
  obtain ⟨cl9, Ar9, qc9, S9, M9, H9, G9⟩ := id v8
  have hin9 : ¬ ((1 : Int32) < 0 ∨ cl9.slots.size ≤ ((1 : Int32)).toNatClampNeg) := (inb_of S9 ⟨by decide, by decide⟩)
  obtain ⟨T9, h9, X9, e9, W9, st9⟩ := stC X8 hx hZ e8 Ar9 (j := (1 : Int32)) hin9 (g := (mkF m 54 #[oi 2, oi u0, oi u1, oi u2, oi u3] [(.int u1), (.int (1 : Int32)), (.ref b7), (.ref b7), (.ref b4), (.ref b4)])) rfl rfl (hb hby d2_54)
  have sz9 : h9.size = h8.size := W9.size
  have N9 := Fr.snoc X9 N8 (by omega)
  have v9 : Arv Z h9 b7 k7 .char (2 : Int32) [(.int (nar .char u0)), (.int (nar .char u1))] (.int (0 : Int32)) := Arv.set Ar9 qc9 S9 M9 H9 G9 (fits_nar_char _) W9 1 rfl (Nat.le_of_ble_eq_true rfl)
  refine own_go (st' := T9.setTop (mkF m 55 #[oi 2, oi u0, oi u1, oi u2, oi u3] [(.ref b7), (.ref b4), (.ref b4)])) (st9) ?_
  have v10 : Arv Z h9 b7 k7 .char (2 : Int32) [(.int u0), (.int u1)] (.int (0 : Int32)) := by rw [own_lat_ch hl_u0, own_lat_ch hl_u1] at v9; exact v9
  have c12 : Exa Z h9 b4 oS0 := (((A4.ext E7).wr W8).wr W9)
  have c13 : Fld Z h9 b4 oS0 "value" "[B" .null := (((f6.ext E7).other W8 (Or.inl (own_ne (by omega)))).other W9 (Or.inl (own_ne (by omega))))
  have c14 : Fld Z h9 b4 oS0 "coder" "B" (.int (0 : Int32)) := (((f5.ext E7).other W8 (Or.inl (own_ne (by omega)))).other W9 (Or.inl (own_ne (by omega))))
  have c15 : Sta Z h9 oS0 oS3 "Z" (.int zc) := ((((pr1.ext E4).ext E7).wr W8).wr W9)
  obtain ⟨_, _, ⟨T11, LC11, kC11, nC11⟩, -, X11, ⟨Lc11, hQ11, lq11, yq11, zq11⟩, st11⟩ := X9.specialBack hx (y := oM3) rfl hown (mvT hZ (own_hw hw 11)) (mvT hZ (own_hw hw 12)) (mvT hZ (own_hw hw 13)) (by decide) (backOf (W := 1) (rsc_2 l Z a0 hw [] b4 b7 k7 zc u0 u1 h9 n0 (by omega) c12 c13 c14 v10 c15 (by assumption) hl_u0 hl_u1 (by omega) (own_ne (by omega))) hZ (own_hw hw 13) (own_hw hw 9) (by decide) (by decide)) (g := (mkF m 55 #[oi 2, oi u0, oi u1, oi u2, oi u3] [(.ref b7), (.ref b4), (.ref b4)])) rfl (by rw [hml]; rfl) (Steps.refl _) (a := b4) (argsL := [(.ref b7)]) (rest := [(.ref b4)]) (lenOf pd_5 rfl) rfl (by show 2 * 0 + _ ≤ _; exact Nat.le_of_eq rfl) (hb hby d2_55) (fun _ _ => ⟨rfl, e9, (by decide : 2 + 1 ≤ _), (by decide : 6 + 2 ≤ _)⟩)
  dsimp only [Pt.U, Pt.locs, Pt.cells, Pt.slots] at X11 lq11 yq11 zq11 st11 hQ11
  subst lq11 yq11 zq11
  obtain ⟨h11, e11⟩ : ∃ z, T11.heap = z := ⟨_, rfl⟩
  rw [e11] at hQ11
  obtain ⟨r_11, kr_11, rfl, Nq11, K11, g11_0, g11_1, g11_2, g11_3, g11_4⟩ := hQ11
  have sz11 : h9.size ≤ h11.size := K11.1
  have N11 := Fr.app N9 Nq11
  have lt11_1 : @LT.lt Nat _ b4 h11.size := g11_0.lt
  have lt11_2 : @LT.lt Nat _ r_11 h11.size := g11_3.lt
  refine own_go (st' := T11.setTop (mkF m 58 #[oi 2, oi u0, oi u1, oi u2, oi u3] [(.ref b4)])) (fun _ k => st11.trans k) ?_
  obtain ⟨fs, hr, hrun, hended, hW, hsame⟩ := X11.leave (v := some (.ref b4)) (fun h => by rw [Bd.returns] at h; cases h)
  refine ⟨_, _, ?_, hP _ _ hrun hended ⟨_, _, rfl, ?_, ⟨_, rfl⟩, hW, hsame.mono (by decide) (by decide)⟩⟩
  · exact retOut X11 hx Bd.returns rfl (Or.inr (Or.inr (Or.inr (Or.inr ⟨rfl, rfl, rfl⟩)))) (hb hby d2_58) hr
  · show Qrmk_2 Z zc u0 u1 u2 u3 h0 n0 _ T11.heap _
    rw [e11]
    exact ⟨b4, r_11, kr_11, rfl, N11, ((((((Keep.refl h0 []).ext E4).ext E7).wr W8 (Or.inr (by omega))).wr W9 (Or.inr (by omega))).trans K11 (allS (P := fun x => x ∈ [] ∨ h0.size ≤ x) (Or.inr (by omega)) all0)), g11_0, g11_1, g11_2, g11_3, (by omega)⟩
theorem d2_59 : decode method_4_code 59 = .ok (.iload_n 0, 1) := by decide +kernel
theorem d2_60 : decode method_4_code 60 = .ok (.iconst 3, 1) := by decide +kernel
theorem d2_61 : decode method_4_code 61 = .ok (.if_icmp .ne 26, 3) := by decide +kernel
theorem d2_64 : decode method_4_code 64 = .ok (.new 13, 3) := by decide +kernel
theorem d2_67 : decode method_4_code 67 = .ok (.dup, 1) := by decide +kernel
theorem d2_68 : decode method_4_code 68 = .ok (.iconst 3, 1) := by decide +kernel
theorem d2_69 : decode method_4_code 69 = .ok (.newarray .char, 2) := by decide +kernel
theorem d2_71 : decode method_4_code 71 = .ok (.dup, 1) := by decide +kernel
theorem d2_72 : decode method_4_code 72 = .ok (.iconst 0, 1) := by decide +kernel
theorem d2_73 : decode method_4_code 73 = .ok (.iload_n 1, 1) := by decide +kernel
theorem d2_74 : decode method_4_code 74 = .ok (.castore, 1) := by decide +kernel
theorem d2_75 : decode method_4_code 75 = .ok (.dup, 1) := by decide +kernel
theorem d2_76 : decode method_4_code 76 = .ok (.iconst 1, 1) := by decide +kernel
theorem d2_77 : decode method_4_code 77 = .ok (.iload_n 2, 1) := by decide +kernel
theorem d2_78 : decode method_4_code 78 = .ok (.castore, 1) := by decide +kernel
theorem d2_79 : decode method_4_code 79 = .ok (.dup, 1) := by decide +kernel
theorem d2_80 : decode method_4_code 80 = .ok (.iconst 2, 1) := by decide +kernel
theorem d2_81 : decode method_4_code 81 = .ok (.iload_n 3, 1) := by decide +kernel
theorem d2_82 : decode method_4_code 82 = .ok (.castore, 1) := by decide +kernel
theorem d2_83 : decode method_4_code 83 = .ok (.invokespecial 15, 3) := by decide +kernel
theorem d2_86 : decode method_4_code 86 = .ok (.areturn, 1) := by decide +kernel
theorem ef_rmk_3 (m : MethodId) (x0 : Int32) (x1 : Int32) (x2 : Int32) (x3 : Int32) (x4 : Int32) : entryFrame m #[(.int x0), (.int x1), (.int x2), (.int x3), (.int x4)] 5 = mkF m 0 #[.val (.int x0), .val (.int x1), .val (.int x2), .val (.int x3), .val (.int x4)] [] := by first | (simp [entryFrame, mkF, argsToLocals, Value.category]; done) | rfl
def Qrmk_3 (Z : State) (zc : Int32) (u0 : Int32) (u1 : Int32) (u2 : Int32) (u3 : Int32) (h0 : Heap) (n0 : Nat) (v : Option Value) (h : Heap) (L : List Loc) : Prop := ∃ (a1 : Addr) (r : Addr) (kr : ClassId), (v = some (.ref a1)) ∧ (Fr n0 L) ∧ (Keep h0 h []) ∧ (Exa Z h a1 "java/lang/String") ∧ (Fld Z h a1 "java/lang/String" "value" "[B" (.ref r)) ∧ (Fld Z h a1 "java/lang/String" "coder" "B" (.int (0 : Int32))) ∧ (Arv Z h r kr .byte (3 : Int32) [(.int (own_by u0)), (.int (own_by u1)), (.int (own_by u2))] (.int (0 : Int32))) ∧ (h0.size ≤ a1)
set_option maxRecDepth 65536 in
set_option maxHeartbeats 40000000 in
theorem rmk_3 (l : Launch) (Z : State) (a0 : Array Value) (hw : ∀ d ∈ tables_1, d.before a0 Z = true) (ws : List Jvm.Cond) (zc : Int32) (u0 : Int32) (u1 : Int32) (u2 : Int32) (u3 : Int32) (h0 : Heap) (n0 : Nat) (Z0 : n0 ≤ h0.size) (pr1 : Sta Z h0 oS0 oS3 "Z" (.int zc)) (hzc : ¬ zc = (0 : Int32)) (hl_u0 : own_lat u0) (hl_u1 : own_lat u1) (hl_u2 : own_lat u2) (hl_u3 : own_lat u3) :
    MetFree l oM5 (head1 (Jvm.Cond.code oM5 method_4_code 5 (some (.object oS0)) :: ws) ({ frames := 4, cells := 3, slots := 10, locals := 66 } : Room)) (fun a U => a = #[(.int (3 : Int32)), (.int u0), (.int u1), (.int u2), (.int u3)] ∧ Z.Warmed39 U.vm ∧ U.heap = h0) (fun _ _ _ _ _ => True) (fun _ U o U' => ∃ v L, o = .returned v ∧ Qrmk_3 Z zc u0 u1 u2 u3 h0 n0 v U'.heap L ∧ FrameEnd U o U' L ({ frames := 4, cells := 3, slots := 10, locals := 66 } : Room).cells ({ frames := 4, cells := 3, slots := 10, locals := 66 } : Room).slots) := by
  refine MetFree.of_bodySF (plainFor_of_name pn_2) hisR ?_
  intro p e s m args below meth c s₁ Bd hml0 hP0 hK
  obtain ⟨rfl, hZ, hh⟩ := hP0
  have hx := Bd.exec
  have hby := Bd.bytes
  have hml : c.maxLocals = 5 := hml0
  have hown : s.vm.findClass oS6 = some m.cls := findClass_of_methodNamed Bd.named
  have hnm := (name_of_methodNamed Bd.named Bd.method).1
  have X0 : Stand p l e ({ frames := 4, cells := 3, slots := 10, locals := 66 } : Room) s m #[(.int (3 : Int32)), (.int u0), (.int u1), (.int u2), (.int u3)] below meth c s₁ [] 0 0 := Stand.of_body Bd
  have e0 : s₁.heap = h0 := by rw [← hh, Bd.state]; rfl
  have N0 := Fr.nil n0
  suffices own_H : ∀ (P : State → Outcome → Prop), (∀ U o, U.status = .running → Ended U below o → (∃ v L, o = .returned v ∧ Qrmk_3 Z zc u0 u1 u2 u3 h0 n0 v U.heap L ∧ FrameEnd s o U L ({ frames := 4, cells := 3, slots := 10, locals := 66 } : Room).cells ({ frames := 4, cells := 3, slots := 10, locals := 66 } : Room).slots) → P U o) → own_Go p.tables e below P (s₁.setTop (mkF m 0 #[oi 3, oi u0, oi u1, oi u2, oi u3] [])) from own_go (fun _ k => castTop (ef_rmk_3 m (3 : Int32) u0 u1 u2 u3) k) (own_H _ (fun U o h1 h2 h3 => ⟨h1, h2, h3⟩))
  intro P hP
  refine own_go (st' := s₁.setTop (mkF m 1 #[oi 3, oi u0, oi u1, oi u2, oi u3] [(.int (3 : Int32))])) (fun _ k => XS.iloadN X0.here hx rfl (hb hby d2_0) rfl k) ?_
  have hc1 : ¬ ((3 : Int32) = (0 : Int32)) := by decide
  refine own_go (st' := s₁.setTop (mkF m 15 #[oi 3, oi u0, oi u1, oi u2, oi u3] [])) (fun _ k => XS.ifYes X0.here hx rfl (pc0 := 1) (pc' := 15) rfl (hb hby d2_1) rfl ((if0 _ _).trans (feq hc1).2) (by decide) (by decide) k) ?_
  refine own_go (st' := s₁.setTop (mkF m 16 #[oi 3, oi u0, oi u1, oi u2, oi u3] [(.int (3 : Int32))])) (fun _ k => XS.iloadN X0.here hx rfl (hb hby d2_15) rfl k) ?_
  refine own_go (st' := s₁.setTop (mkF m 17 #[oi 3, oi u0, oi u1, oi u2, oi u3] [(.int (1 : Int32)), (.int (3 : Int32))])) (fun _ k => XS.iconst X0.here hx rfl (hb hby d2_16) k) ?_
  have hc2 : ¬ ((3 : Int32) = (1 : Int32)) := by decide
  refine own_go (st' := s₁.setTop (mkF m 35 #[oi 3, oi u0, oi u1, oi u2, oi u3] [])) (fun _ k => XS.icmpYes X0.here hx rfl (pc0 := 17) (pc' := 35) rfl (hb hby d2_17) rfl (feq hc2).2 (by decide) (by decide) k) ?_
  refine own_go (st' := s₁.setTop (mkF m 36 #[oi 3, oi u0, oi u1, oi u2, oi u3] [(.int (3 : Int32))])) (fun _ k => XS.iloadN X0.here hx rfl (hb hby d2_35) rfl k) ?_
  refine own_go (st' := s₁.setTop (mkF m 37 #[oi 3, oi u0, oi u1, oi u2, oi u3] [(.int (2 : Int32)), (.int (3 : Int32))])) (fun _ k => XS.iconst X0.here hx rfl (hb hby d2_36) k) ?_
  have hc3 : ¬ ((3 : Int32) = (2 : Int32)) := by decide
  refine own_go (st' := s₁.setTop (mkF m 59 #[oi 3, oi u0, oi u1, oi u2, oi u3] [])) (fun _ k => XS.icmpYes X0.here hx rfl (pc0 := 37) (pc' := 59) rfl (hb hby d2_37) rfl (feq hc3).2 (by decide) (by decide) k) ?_
  refine own_go (st' := s₁.setTop (mkF m 60 #[oi 3, oi u0, oi u1, oi u2, oi u3] [(.int (3 : Int32))])) (fun _ k => XS.iloadN X0.here hx rfl (hb hby d2_59) rfl k) ?_
  refine own_go (st' := s₁.setTop (mkF m 61 #[oi 3, oi u0, oi u1, oi u2, oi u3] [(.int (3 : Int32)), (.int (3 : Int32))])) (fun _ k => XS.iconst X0.here hx rfl (hb hby d2_60) k) ?_
  have hc4 : (3 : Int32) = (3 : Int32) := by decide
  refine own_go (st' := s₁.setTop (mkF m 64 #[oi 3, oi u0, oi u1, oi u2, oi u3] [])) (fun _ k => XS.icmpNo X0.here hx rfl (hb hby d2_61) rfl (teq hc4).2 k) ?_
  obtain ⟨T5, h5, X5, e5, E5, A5, D5, -, st5⟩ := newO X0 hx hZ hown (own_hw hw 7) (own_hw hw 8) (own_hw hw 9) e0 (g := (mkF m 64 #[oi 3, oi u0, oi u1, oi u2, oi u3] [])) rfl (hb hby d2_64) (by decide) (by decide)
  obtain ⟨b5, g5⟩ : ∃ z, z = h0.size := ⟨_, rfl⟩
  rw [← g5] at A5 D5 st5
  have sz5 : h0.size ≤ h5.size := E5.1
  have lt5 : @LT.lt Nat _ b5 h5.size := A5.lt
  have f6 : Fld Z h5 b5 oS0 "coder" "B" (.int (0 : Int32)) := D5 (Or.inr (own_hw hw 34)) (ty := .byte) (by decide)
  have f7 : Fld Z h5 b5 oS0 "value" "[B" .null := D5 (Or.inr (own_hw hw 36)) (ty := (.array .byte)) (by decide)
  refine own_go (st' := T5.setTop (mkF m 67 #[oi 3, oi u0, oi u1, oi u2, oi u3] [(.ref b5)])) (st5) ?_
  refine own_go (st' := T5.setTop (mkF m 68 #[oi 3, oi u0, oi u1, oi u2, oi u3] [(.ref b5), (.ref b5)])) (fun _ k => XS.dup X5.here hx rfl (hb hby d2_67) rfl rfl k) ?_
  refine own_go (st' := T5.setTop (mkF m 69 #[oi 3, oi u0, oi u1, oi u2, oi u3] [(.int (3 : Int32)), (.ref b5), (.ref b5)])) (fun _ k => XS.iconst X5.here hx rfl (hb hby d2_68) k) ?_
  obtain ⟨T8, h8, k8, X8, e8, E8, A8, st8⟩ := newP X5 hx hZ (own_hw hw 10) e5 (g := (mkF m 69 #[oi 3, oi u0, oi u1, oi u2, oi u3] [(.int (3 : Int32)), (.ref b5), (.ref b5)])) rfl (hb hby d2_69) rfl (by decide) (cap := 3) (by decide) (by decide) (by decide) (by decide)
  obtain ⟨b8, g8⟩ : ∃ z, z = h5.size := ⟨_, rfl⟩
  rw [← g8] at A8 st8
  have sz8 : h5.size ≤ h8.size := E8.1
  have lt8 : @LT.lt Nat _ b8 h8.size := A8.lt
  have v8 : Arv Z h8 b8 k8 .char (3 : Int32) [(.int (0 : Int32)), (.int (0 : Int32)), (.int (0 : Int32))] (.int (0 : Int32)) := (Arv.new A8 (by decide)).pad (pad_rep [] (.int (0 : Int32)) 3)
  refine own_go (st' := T8.setTop (mkF m 71 #[oi 3, oi u0, oi u1, oi u2, oi u3] [(.ref b8), (.ref b5), (.ref b5)])) (st8) ?_
  refine own_go (st' := T8.setTop (mkF m 72 #[oi 3, oi u0, oi u1, oi u2, oi u3] [(.ref b8), (.ref b8), (.ref b5), (.ref b5)])) (fun _ k => XS.dup X8.here hx rfl (hb hby d2_71) rfl rfl k) ?_
  refine own_go (st' := T8.setTop (mkF m 73 #[oi 3, oi u0, oi u1, oi u2, oi u3] [(.int (0 : Int32)), (.ref b8), (.ref b8), (.ref b5), (.ref b5)])) (fun _ k => XS.iconst X8.here hx rfl (hb hby d2_72) k) ?_
  refine own_go (st' := T8.setTop (mkF m 74 #[oi 3, oi u0, oi u1, oi u2, oi u3] [(.int u0), (.int (0 : Int32)), (.ref b8), (.ref b8), (.ref b5), (.ref b5)])) (fun _ k => XS.iloadN X8.here hx rfl (hb hby d2_73) rfl k) ?_
  obtain ⟨cl9, Ar9, qc9, S9, M9, H9, G9⟩ := id v8
  have hin9 : ¬ ((0 : Int32) < 0 ∨ cl9.slots.size ≤ ((0 : Int32)).toNatClampNeg) := (inb_of S9 ⟨by decide, by decide⟩)
  obtain ⟨T9, h9, X9, e9, W9, st9⟩ := stC X8 hx hZ e8 Ar9 (j := (0 : Int32)) hin9 (g := (mkF m 74 #[oi 3, oi u0, oi u1, oi u2, oi u3] [(.int u0), (.int (0 : Int32)), (.ref b8), (.ref b8), (.ref b5), (.ref b5)])) rfl rfl (hb hby d2_74)
  have sz9 : h9.size = h8.size := W9.size
  have N9 := Fr.snoc X9 N0 (by omega)
  have v9 : Arv Z h9 b8 k8 .char (3 : Int32) [(.int (nar .char u0)), (.int (0 : Int32)), (.int (0 : Int32))] (.int (0 : Int32)) := Arv.set Ar9 qc9 S9 M9 H9 G9 (fits_nar_char _) W9 0 rfl (Nat.le_of_ble_eq_true rfl)
  refine own_go (st' := T9.setTop (mkF m 75 #[oi 3, oi u0, oi u1, oi u2, oi u3] [(.ref b8), (.ref b5), (.ref b5)])) (st9) ?_
  refine own_go (st' := T9.setTop (mkF m 76 #[oi 3, oi u0, oi u1, oi u2, oi u3] [(.ref b8), (.ref b8), (.ref b5), (.ref b5)])) (fun _ k => XS.dup X9.here hx rfl (hb hby d2_75) rfl rfl k) ?_
  refine own_go (st' := T9.setTop (mkF m 77 #[oi 3, oi u0, oi u1, oi u2, oi u3] [(.int (1 : Int32)), (.ref b8), (.ref b8), (.ref b5), (.ref b5)])) (fun _ k => XS.iconst X9.here hx rfl (hb hby d2_76) k) ?_
  refine own_go (st' := T9.setTop (mkF m 78 #[oi 3, oi u0, oi u1, oi u2, oi u3] [(.int u1), (.int (1 : Int32)), (.ref b8), (.ref b8), (.ref b5), (.ref b5)])) (fun _ k => XS.iloadN X9.here hx rfl (hb hby d2_77) rfl k) ?_
  obtain ⟨cl10, Ar10, qc10, S10, M10, H10, G10⟩ := id v9
  have hin10 : ¬ ((1 : Int32) < 0 ∨ cl10.slots.size ≤ ((1 : Int32)).toNatClampNeg) := (inb_of S10 ⟨by decide, by decide⟩)
  obtain ⟨T10, h10, X10, e10, W10, st10⟩ := stC X9 hx hZ e9 Ar10 (j := (1 : Int32)) hin10 (g := (mkF m 78 #[oi 3, oi u0, oi u1, oi u2, oi u3] [(.int u1), (.int (1 : Int32)), (.ref b8), (.ref b8), (.ref b5), (.ref b5)])) rfl rfl (hb hby d2_78)
  have sz10 : h10.size = h9.size := W10.size
  have N10 := Fr.snoc X10 N9 (by omega)
  have v10 : Arv Z h10 b8 k8 .char (3 : Int32) [(.int (nar .char u0)), (.int (nar .char u1)), (.int (0 : Int32))] (.int (0 : Int32)) := Arv.set Ar10 qc10 S10 M10 H10 G10 (fits_nar_char _) W10 1 rfl (Nat.le_of_ble_eq_true rfl)
  refine own_go (st' := T10.setTop (mkF m 79 #[oi 3, oi u0, oi u1, oi u2, oi u3] [(.ref b8), (.ref b5), (.ref b5)])) (st10) ?_
  refine own_go (st' := T10.setTop (mkF m 80 #[oi 3, oi u0, oi u1, oi u2, oi u3] [(.ref b8), (.ref b8), (.ref b5), (.ref b5)])) (fun _ k => XS.dup X10.here hx rfl (hb hby d2_79) rfl rfl k) ?_
  refine own_go (st' := T10.setTop (mkF m 81 #[oi 3, oi u0, oi u1, oi u2, oi u3] [(.int (2 : Int32)), (.ref b8), (.ref b8), (.ref b5), (.ref b5)])) (fun _ k => XS.iconst X10.here hx rfl (hb hby d2_80) k) ?_
  refine own_go (st' := T10.setTop (mkF m 82 #[oi 3, oi u0, oi u1, oi u2, oi u3] [(.int u2), (.int (2 : Int32)), (.ref b8), (.ref b8), (.ref b5), (.ref b5)])) (fun _ k => XS.iloadN X10.here hx rfl (hb hby d2_81) rfl k) ?_
  obtain ⟨cl11, Ar11, qc11, S11, M11, H11, G11⟩ := id v10
  have hin11 : ¬ ((2 : Int32) < 0 ∨ cl11.slots.size ≤ ((2 : Int32)).toNatClampNeg) := (inb_of S11 ⟨by decide, by decide⟩)
  obtain ⟨T11, h11, X11, e11, W11, st11⟩ := stC X10 hx hZ e10 Ar11 (j := (2 : Int32)) hin11 (g := (mkF m 82 #[oi 3, oi u0, oi u1, oi u2, oi u3] [(.int u2), (.int (2 : Int32)), (.ref b8), (.ref b8), (.ref b5), (.ref b5)])) rfl rfl (hb hby d2_82)
  have sz11 : h11.size = h10.size := W11.size
  have N11 := Fr.snoc X11 N10 (by omega)
  have v11 : Arv Z h11 b8 k8 .char (3 : Int32) [(.int (nar .char u0)), (.int (nar .char u1)), (.int (nar .char u2))] (.int (0 : Int32)) := Arv.set Ar11 qc11 S11 M11 H11 G11 (fits_nar_char _) W11 2 rfl (Nat.le_of_ble_eq_true rfl)
  refine own_go (st' := T11.setTop (mkF m 83 #[oi 3, oi u0, oi u1, oi u2, oi u3] [(.ref b8), (.ref b5), (.ref b5)])) (st11) ?_
  have v12 : Arv Z h11 b8 k8 .char (3 : Int32) [(.int u0), (.int u1), (.int u2)] (.int (0 : Int32)) := by rw [own_lat_ch hl_u0, own_lat_ch hl_u1, own_lat_ch hl_u2] at v11; exact v11
  have c14 : Exa Z h11 b5 oS0 := ((((A5.ext E8).wr W9).wr W10).wr W11)
  have c15 : Fld Z h11 b5 oS0 "value" "[B" .null := ((((f7.ext E8).other W9 (Or.inl (own_ne (by omega)))).other W10 (Or.inl (own_ne (by omega)))).other W11 (Or.inl (own_ne (by omega))))
  have c16 : Fld Z h11 b5 oS0 "coder" "B" (.int (0 : Int32)) := ((((f6.ext E8).other W9 (Or.inl (own_ne (by omega)))).other W10 (Or.inl (own_ne (by omega)))).other W11 (Or.inl (own_ne (by omega))))
  have c17 : Sta Z h11 oS0 oS3 "Z" (.int zc) := (((((pr1.ext E5).ext E8).wr W9).wr W10).wr W11)
  obtain ⟨_, _, ⟨T13, LC13, kC13, nC13⟩, -, X13, ⟨Lc13, hQ13, lq13, yq13, zq13⟩, st13⟩ := X11.specialBack hx (y := oM3) rfl hown (mvT hZ (own_hw hw 11)) (mvT hZ (own_hw hw 12)) (mvT hZ (own_hw hw 13)) (by decide) (backOf (W := 1) (rsc_3 l Z a0 hw [] b5 b8 k8 zc u0 u1 u2 h11 n0 (by omega) c14 c15 c16 v12 c17 (by assumption) hl_u0 hl_u1 hl_u2 (by omega) (own_ne (by omega))) hZ (own_hw hw 13) (own_hw hw 9) (by decide) (by decide)) (g := (mkF m 83 #[oi 3, oi u0, oi u1, oi u2, oi u3] [(.ref b8), (.ref b5), (.ref b5)])) rfl (by rw [hml]; rfl) (Steps.refl _) (a := b5) (argsL := [(.ref b8)]) (rest := [(.ref b5)]) (lenOf pd_5 rfl) rfl (by show 2 * 0 + _ ≤ _; exact Nat.le_of_eq rfl) (hb hby d2_83) (fun _ _ => ⟨rfl, e11, (by decide : 2 + 1 ≤ _), (by decide : 7 + 3 ≤ _)⟩)
  dsimp only [Pt.U, Pt.locs, Pt.cells, Pt.slots] at X13 lq13 yq13 zq13 st13 hQ13
  subst lq13 yq13 zq13
  obtain ⟨h13, e13⟩ : ∃ z, T13.heap = z := ⟨_, rfl⟩
  rw [e13] at hQ13
  obtain ⟨r_13, kr_13, rfl, Nq13, K13, g13_0, g13_1, g13_2, g13_3, g13_4⟩ := hQ13
  have sz13 : h11.size ≤ h13.size := K13.1
  have N13 := Fr.app N11 Nq13
  have lt13_1 : @LT.lt Nat _ b5 h13.size := g13_0.lt
  have lt13_2 : @LT.lt Nat _ r_13 h13.size := g13_3.lt
  refine own_go (st' := T13.setTop (mkF m 86 #[oi 3, oi u0, oi u1, oi u2, oi u3] [(.ref b5)])) (fun _ k => st13.trans k) ?_
  obtain ⟨fs, hr, hrun, hended, hW, hsame⟩ := X13.leave (v := some (.ref b5)) (fun h => by rw [Bd.returns] at h; cases h)
  refine ⟨_, _, ?_, hP _ _ hrun hended ⟨_, _, rfl, ?_, ⟨_, rfl⟩, hW, hsame.mono (by decide) (by decide)⟩⟩
  · exact retOut X13 hx Bd.returns rfl (Or.inr (Or.inr (Or.inr (Or.inr ⟨rfl, rfl, rfl⟩)))) (hb hby d2_86) hr
  · show Qrmk_3 Z zc u0 u1 u2 u3 h0 n0 _ T13.heap _
    rw [e13]
    exact ⟨b5, r_13, kr_13, rfl, N13, (((((((Keep.refl h0 []).ext E5).ext E8).wr W9 (Or.inr (by omega))).wr W10 (Or.inr (by omega))).wr W11 (Or.inr (by omega))).trans K13 (allS (P := fun x => x ∈ [] ∨ h0.size ≤ x) (Or.inr (by omega)) all0)), g13_0, g13_1, g13_2, g13_3, (by omega)⟩
theorem d2_87 : decode method_4_code 87 = .ok (.new 13, 3) := by decide +kernel
theorem d2_90 : decode method_4_code 90 = .ok (.dup, 1) := by decide +kernel
theorem d2_91 : decode method_4_code 91 = .ok (.iconst 4, 1) := by decide +kernel
theorem d2_92 : decode method_4_code 92 = .ok (.newarray .char, 2) := by decide +kernel
theorem d2_94 : decode method_4_code 94 = .ok (.dup, 1) := by decide +kernel
theorem d2_95 : decode method_4_code 95 = .ok (.iconst 0, 1) := by decide +kernel
theorem d2_96 : decode method_4_code 96 = .ok (.iload_n 1, 1) := by decide +kernel
theorem d2_97 : decode method_4_code 97 = .ok (.castore, 1) := by decide +kernel
theorem d2_98 : decode method_4_code 98 = .ok (.dup, 1) := by decide +kernel
theorem d2_99 : decode method_4_code 99 = .ok (.iconst 1, 1) := by decide +kernel
theorem d2_100 : decode method_4_code 100 = .ok (.iload_n 2, 1) := by decide +kernel
theorem d2_101 : decode method_4_code 101 = .ok (.castore, 1) := by decide +kernel
theorem d2_102 : decode method_4_code 102 = .ok (.dup, 1) := by decide +kernel
theorem d2_103 : decode method_4_code 103 = .ok (.iconst 2, 1) := by decide +kernel
theorem d2_104 : decode method_4_code 104 = .ok (.iload_n 3, 1) := by decide +kernel
theorem d2_105 : decode method_4_code 105 = .ok (.castore, 1) := by decide +kernel
theorem d2_106 : decode method_4_code 106 = .ok (.dup, 1) := by decide +kernel
theorem d2_107 : decode method_4_code 107 = .ok (.iconst 3, 1) := by decide +kernel
theorem d2_108 : decode method_4_code 108 = .ok (.iload 4, 2) := by decide +kernel
theorem d2_110 : decode method_4_code 110 = .ok (.castore, 1) := by decide +kernel
theorem d2_111 : decode method_4_code 111 = .ok (.invokespecial 15, 3) := by decide +kernel
theorem d2_114 : decode method_4_code 114 = .ok (.areturn, 1) := by decide +kernel
theorem ef_rmk_4 (m : MethodId) (x0 : Int32) (x1 : Int32) (x2 : Int32) (x3 : Int32) (x4 : Int32) : entryFrame m #[(.int x0), (.int x1), (.int x2), (.int x3), (.int x4)] 5 = mkF m 0 #[.val (.int x0), .val (.int x1), .val (.int x2), .val (.int x3), .val (.int x4)] [] := by first | (simp [entryFrame, mkF, argsToLocals, Value.category]; done) | rfl
def Qrmk_4 (Z : State) (zc : Int32) (u0 : Int32) (u1 : Int32) (u2 : Int32) (u3 : Int32) (h0 : Heap) (n0 : Nat) (v : Option Value) (h : Heap) (L : List Loc) : Prop := ∃ (a1 : Addr) (r : Addr) (kr : ClassId), (v = some (.ref a1)) ∧ (Fr n0 L) ∧ (Keep h0 h []) ∧ (Exa Z h a1 "java/lang/String") ∧ (Fld Z h a1 "java/lang/String" "value" "[B" (.ref r)) ∧ (Fld Z h a1 "java/lang/String" "coder" "B" (.int (0 : Int32))) ∧ (Arv Z h r kr .byte (4 : Int32) [(.int (own_by u0)), (.int (own_by u1)), (.int (own_by u2)), (.int (own_by u3))] (.int (0 : Int32))) ∧ (h0.size ≤ a1)
set_option maxRecDepth 65536 in
set_option maxHeartbeats 40000000 in
theorem rmk_4 (l : Launch) (Z : State) (a0 : Array Value) (hw : ∀ d ∈ tables_1, d.before a0 Z = true) (ws : List Jvm.Cond) (zc : Int32) (u0 : Int32) (u1 : Int32) (u2 : Int32) (u3 : Int32) (h0 : Heap) (n0 : Nat) (Z0 : n0 ≤ h0.size) (pr1 : Sta Z h0 oS0 oS3 "Z" (.int zc)) (hzc : ¬ zc = (0 : Int32)) (hl_u0 : own_lat u0) (hl_u1 : own_lat u1) (hl_u2 : own_lat u2) (hl_u3 : own_lat u3) :
    MetFree l oM5 (head1 (Jvm.Cond.code oM5 method_4_code 5 (some (.object oS0)) :: ws) ({ frames := 4, cells := 3, slots := 12, locals := 66 } : Room)) (fun a U => a = #[(.int (4 : Int32)), (.int u0), (.int u1), (.int u2), (.int u3)] ∧ Z.Warmed39 U.vm ∧ U.heap = h0) (fun _ _ _ _ _ => True) (fun _ U o U' => ∃ v L, o = .returned v ∧ Qrmk_4 Z zc u0 u1 u2 u3 h0 n0 v U'.heap L ∧ FrameEnd U o U' L ({ frames := 4, cells := 3, slots := 12, locals := 66 } : Room).cells ({ frames := 4, cells := 3, slots := 12, locals := 66 } : Room).slots) := by
  refine MetFree.of_bodySF (plainFor_of_name pn_2) hisR ?_
  intro p e s m args below meth c s₁ Bd hml0 hP0 hK
  obtain ⟨rfl, hZ, hh⟩ := hP0
  have hx := Bd.exec
  have hby := Bd.bytes
  have hml : c.maxLocals = 5 := hml0
  have hown : s.vm.findClass oS6 = some m.cls := findClass_of_methodNamed Bd.named
  have hnm := (name_of_methodNamed Bd.named Bd.method).1
  have X0 : Stand p l e ({ frames := 4, cells := 3, slots := 12, locals := 66 } : Room) s m #[(.int (4 : Int32)), (.int u0), (.int u1), (.int u2), (.int u3)] below meth c s₁ [] 0 0 := Stand.of_body Bd
  have e0 : s₁.heap = h0 := by rw [← hh, Bd.state]; rfl
  have N0 := Fr.nil n0
  suffices own_H : ∀ (P : State → Outcome → Prop), (∀ U o, U.status = .running → Ended U below o → (∃ v L, o = .returned v ∧ Qrmk_4 Z zc u0 u1 u2 u3 h0 n0 v U.heap L ∧ FrameEnd s o U L ({ frames := 4, cells := 3, slots := 12, locals := 66 } : Room).cells ({ frames := 4, cells := 3, slots := 12, locals := 66 } : Room).slots) → P U o) → own_Go p.tables e below P (s₁.setTop (mkF m 0 #[oi 4, oi u0, oi u1, oi u2, oi u3] [])) from own_go (fun _ k => castTop (ef_rmk_4 m (4 : Int32) u0 u1 u2 u3) k) (own_H _ (fun U o h1 h2 h3 => ⟨h1, h2, h3⟩))
  intro P hP
  refine own_go (st' := s₁.setTop (mkF m 1 #[oi 4, oi u0, oi u1, oi u2, oi u3] [(.int (4 : Int32))])) (fun _ k => XS.iloadN X0.here hx rfl (hb hby d2_0) rfl k) ?_
  have hc1 : ¬ ((4 : Int32) = (0 : Int32)) := by decide
  refine own_go (st' := s₁.setTop (mkF m 15 #[oi 4, oi u0, oi u1, oi u2, oi u3] [])) (fun _ k => XS.ifYes X0.here hx rfl (pc0 := 1) (pc' := 15) rfl (hb hby d2_1) rfl ((if0 _ _).trans (feq hc1).2) (by decide) (by decide) k) ?_
  refine own_go (st' := s₁.setTop (mkF m 16 #[oi 4, oi u0, oi u1, oi u2, oi u3] [(.int (4 : Int32))])) (fun _ k => XS.iloadN X0.here hx rfl (hb hby d2_15) rfl k) ?_
  refine own_go (st' := s₁.setTop (mkF m 17 #[oi 4, oi u0, oi u1, oi u2, oi u3] [(.int (1 : Int32)), (.int (4 : Int32))])) (fun _ k => XS.iconst X0.here hx rfl (hb hby d2_16) k) ?_
  have hc2 : ¬ ((4 : Int32) = (1 : Int32)) := by decide
  refine own_go (st' := s₁.setTop (mkF m 35 #[oi 4, oi u0, oi u1, oi u2, oi u3] [])) (fun _ k => XS.icmpYes X0.here hx rfl (pc0 := 17) (pc' := 35) rfl (hb hby d2_17) rfl (feq hc2).2 (by decide) (by decide) k) ?_
  refine own_go (st' := s₁.setTop (mkF m 36 #[oi 4, oi u0, oi u1, oi u2, oi u3] [(.int (4 : Int32))])) (fun _ k => XS.iloadN X0.here hx rfl (hb hby d2_35) rfl k) ?_
  refine own_go (st' := s₁.setTop (mkF m 37 #[oi 4, oi u0, oi u1, oi u2, oi u3] [(.int (2 : Int32)), (.int (4 : Int32))])) (fun _ k => XS.iconst X0.here hx rfl (hb hby d2_36) k) ?_
  have hc3 : ¬ ((4 : Int32) = (2 : Int32)) := by decide
  refine own_go (st' := s₁.setTop (mkF m 59 #[oi 4, oi u0, oi u1, oi u2, oi u3] [])) (fun _ k => XS.icmpYes X0.here hx rfl (pc0 := 37) (pc' := 59) rfl (hb hby d2_37) rfl (feq hc3).2 (by decide) (by decide) k) ?_
  refine own_go (st' := s₁.setTop (mkF m 60 #[oi 4, oi u0, oi u1, oi u2, oi u3] [(.int (4 : Int32))])) (fun _ k => XS.iloadN X0.here hx rfl (hb hby d2_59) rfl k) ?_
  refine own_go (st' := s₁.setTop (mkF m 61 #[oi 4, oi u0, oi u1, oi u2, oi u3] [(.int (3 : Int32)), (.int (4 : Int32))])) (fun _ k => XS.iconst X0.here hx rfl (hb hby d2_60) k) ?_
  have hc4 : ¬ ((4 : Int32) = (3 : Int32)) := by decide
  refine own_go (st' := s₁.setTop (mkF m 87 #[oi 4, oi u0, oi u1, oi u2, oi u3] [])) (fun _ k => XS.icmpYes X0.here hx rfl (pc0 := 61) (pc' := 87) rfl (hb hby d2_61) rfl (feq hc4).2 (by decide) (by decide) k) ?_
  obtain ⟨T5, h5, X5, e5, E5, A5, D5, -, st5⟩ := newO X0 hx hZ hown (own_hw hw 7) (own_hw hw 8) (own_hw hw 9) e0 (g := (mkF m 87 #[oi 4, oi u0, oi u1, oi u2, oi u3] [])) rfl (hb hby d2_87) (by decide) (by decide)
  obtain ⟨b5, g5⟩ : ∃ z, z = h0.size := ⟨_, rfl⟩
  rw [← g5] at A5 D5 st5
  have sz5 : h0.size ≤ h5.size := E5.1
  have lt5 : @LT.lt Nat _ b5 h5.size := A5.lt
  have f6 : Fld Z h5 b5 oS0 "coder" "B" (.int (0 : Int32)) := D5 (Or.inr (own_hw hw 34)) (ty := .byte) (by decide)
  have f7 : Fld Z h5 b5 oS0 "value" "[B" .null := D5 (Or.inr (own_hw hw 36)) (ty := (.array .byte)) (by decide)
  refine own_go (st' := T5.setTop (mkF m 90 #[oi 4, oi u0, oi u1, oi u2, oi u3] [(.ref b5)])) (st5) ?_
  refine own_go (st' := T5.setTop (mkF m 91 #[oi 4, oi u0, oi u1, oi u2, oi u3] [(.ref b5), (.ref b5)])) (fun _ k => XS.dup X5.here hx rfl (hb hby d2_90) rfl rfl k) ?_
  refine own_go (st' := T5.setTop (mkF m 92 #[oi 4, oi u0, oi u1, oi u2, oi u3] [(.int (4 : Int32)), (.ref b5), (.ref b5)])) (fun _ k => XS.iconst X5.here hx rfl (hb hby d2_91) k) ?_
  obtain ⟨T8, h8, k8, X8, e8, E8, A8, st8⟩ := newP X5 hx hZ (own_hw hw 10) e5 (g := (mkF m 92 #[oi 4, oi u0, oi u1, oi u2, oi u3] [(.int (4 : Int32)), (.ref b5), (.ref b5)])) rfl (hb hby d2_92) rfl (by decide) (cap := 4) (by decide) (by decide) (by decide) (by decide)
  obtain ⟨b8, g8⟩ : ∃ z, z = h5.size := ⟨_, rfl⟩
  rw [← g8] at A8 st8
  have sz8 : h5.size ≤ h8.size := E8.1
  have lt8 : @LT.lt Nat _ b8 h8.size := A8.lt
  have v8 : Arv Z h8 b8 k8 .char (4 : Int32) [(.int (0 : Int32)), (.int (0 : Int32)), (.int (0 : Int32)), (.int (0 : Int32))] (.int (0 : Int32)) := (Arv.new A8 (by decide)).pad (pad_rep [] (.int (0 : Int32)) 4)
  refine own_go (st' := T8.setTop (mkF m 94 #[oi 4, oi u0, oi u1, oi u2, oi u3] [(.ref b8), (.ref b5), (.ref b5)])) (st8) ?_
  refine own_go (st' := T8.setTop (mkF m 95 #[oi 4, oi u0, oi u1, oi u2, oi u3] [(.ref b8), (.ref b8), (.ref b5), (.ref b5)])) (fun _ k => XS.dup X8.here hx rfl (hb hby d2_94) rfl rfl k) ?_
  refine own_go (st' := T8.setTop (mkF m 96 #[oi 4, oi u0, oi u1, oi u2, oi u3] [(.int (0 : Int32)), (.ref b8), (.ref b8), (.ref b5), (.ref b5)])) (fun _ k => XS.iconst X8.here hx rfl (hb hby d2_95) k) ?_
  refine own_go (st' := T8.setTop (mkF m 97 #[oi 4, oi u0, oi u1, oi u2, oi u3] [(.int u0), (.int (0 : Int32)), (.ref b8), (.ref b8), (.ref b5), (.ref b5)])) (fun _ k => XS.iloadN X8.here hx rfl (hb hby d2_96) rfl k) ?_
  obtain ⟨cl9, Ar9, qc9, S9, M9, H9, G9⟩ := id v8
  have hin9 : ¬ ((0 : Int32) < 0 ∨ cl9.slots.size ≤ ((0 : Int32)).toNatClampNeg) := (inb_of S9 ⟨by decide, by decide⟩)
  obtain ⟨T9, h9, X9, e9, W9, st9⟩ := stC X8 hx hZ e8 Ar9 (j := (0 : Int32)) hin9 (g := (mkF m 97 #[oi 4, oi u0, oi u1, oi u2, oi u3] [(.int u0), (.int (0 : Int32)), (.ref b8), (.ref b8), (.ref b5), (.ref b5)])) rfl rfl (hb hby d2_97)
  have sz9 : h9.size = h8.size := W9.size
  have N9 := Fr.snoc X9 N0 (by omega)
  have v9 : Arv Z h9 b8 k8 .char (4 : Int32) [(.int (nar .char u0)), (.int (0 : Int32)), (.int (0 : Int32)), (.int (0 : Int32))] (.int (0 : Int32)) := Arv.set Ar9 qc9 S9 M9 H9 G9 (fits_nar_char _) W9 0 rfl (Nat.le_of_ble_eq_true rfl)
  refine own_go (st' := T9.setTop (mkF m 98 #[oi 4, oi u0, oi u1, oi u2, oi u3] [(.ref b8), (.ref b5), (.ref b5)])) (st9) ?_
  refine own_go (st' := T9.setTop (mkF m 99 #[oi 4, oi u0, oi u1, oi u2, oi u3] [(.ref b8), (.ref b8), (.ref b5), (.ref b5)])) (fun _ k => XS.dup X9.here hx rfl (hb hby d2_98) rfl rfl k) ?_
  refine own_go (st' := T9.setTop (mkF m 100 #[oi 4, oi u0, oi u1, oi u2, oi u3] [(.int (1 : Int32)), (.ref b8), (.ref b8), (.ref b5), (.ref b5)])) (fun _ k => XS.iconst X9.here hx rfl (hb hby d2_99) k) ?_
  refine own_go (st' := T9.setTop (mkF m 101 #[oi 4, oi u0, oi u1, oi u2, oi u3] [(.int u1), (.int (1 : Int32)), (.ref b8), (.ref b8), (.ref b5), (.ref b5)])) (fun _ k => XS.iloadN X9.here hx rfl (hb hby d2_100) rfl k) ?_
  obtain ⟨cl10, Ar10, qc10, S10, M10, H10, G10⟩ := id v9
  have hin10 : ¬ ((1 : Int32) < 0 ∨ cl10.slots.size ≤ ((1 : Int32)).toNatClampNeg) := (inb_of S10 ⟨by decide, by decide⟩)
  obtain ⟨T10, h10, X10, e10, W10, st10⟩ := stC X9 hx hZ e9 Ar10 (j := (1 : Int32)) hin10 (g := (mkF m 101 #[oi 4, oi u0, oi u1, oi u2, oi u3] [(.int u1), (.int (1 : Int32)), (.ref b8), (.ref b8), (.ref b5), (.ref b5)])) rfl rfl (hb hby d2_101)
  have sz10 : h10.size = h9.size := W10.size
  have N10 := Fr.snoc X10 N9 (by omega)
  have v10 : Arv Z h10 b8 k8 .char (4 : Int32) [(.int (nar .char u0)), (.int (nar .char u1)), (.int (0 : Int32)), (.int (0 : Int32))] (.int (0 : Int32)) := Arv.set Ar10 qc10 S10 M10 H10 G10 (fits_nar_char _) W10 1 rfl (Nat.le_of_ble_eq_true rfl)
  refine own_go (st' := T10.setTop (mkF m 102 #[oi 4, oi u0, oi u1, oi u2, oi u3] [(.ref b8), (.ref b5), (.ref b5)])) (st10) ?_
  refine own_go (st' := T10.setTop (mkF m 103 #[oi 4, oi u0, oi u1, oi u2, oi u3] [(.ref b8), (.ref b8), (.ref b5), (.ref b5)])) (fun _ k => XS.dup X10.here hx rfl (hb hby d2_102) rfl rfl k) ?_
  refine own_go (st' := T10.setTop (mkF m 104 #[oi 4, oi u0, oi u1, oi u2, oi u3] [(.int (2 : Int32)), (.ref b8), (.ref b8), (.ref b5), (.ref b5)])) (fun _ k => XS.iconst X10.here hx rfl (hb hby d2_103) k) ?_
  refine own_go (st' := T10.setTop (mkF m 105 #[oi 4, oi u0, oi u1, oi u2, oi u3] [(.int u2), (.int (2 : Int32)), (.ref b8), (.ref b8), (.ref b5), (.ref b5)])) (fun _ k => XS.iloadN X10.here hx rfl (hb hby d2_104) rfl k) ?_
  obtain ⟨cl11, Ar11, qc11, S11, M11, H11, G11⟩ := id v10
  have hin11 : ¬ ((2 : Int32) < 0 ∨ cl11.slots.size ≤ ((2 : Int32)).toNatClampNeg) := (inb_of S11 ⟨by decide, by decide⟩)
  obtain ⟨T11, h11, X11, e11, W11, st11⟩ := stC X10 hx hZ e10 Ar11 (j := (2 : Int32)) hin11 (g := (mkF m 105 #[oi 4, oi u0, oi u1, oi u2, oi u3] [(.int u2), (.int (2 : Int32)), (.ref b8), (.ref b8), (.ref b5), (.ref b5)])) rfl rfl (hb hby d2_105)
  have sz11 : h11.size = h10.size := W11.size
  have N11 := Fr.snoc X11 N10 (by omega)
  have v11 : Arv Z h11 b8 k8 .char (4 : Int32) [(.int (nar .char u0)), (.int (nar .char u1)), (.int (nar .char u2)), (.int (0 : Int32))] (.int (0 : Int32)) := Arv.set Ar11 qc11 S11 M11 H11 G11 (fits_nar_char _) W11 2 rfl (Nat.le_of_ble_eq_true rfl)
  refine own_go (st' := T11.setTop (mkF m 106 #[oi 4, oi u0, oi u1, oi u2, oi u3] [(.ref b8), (.ref b5), (.ref b5)])) (st11) ?_
  refine own_go (st' := T11.setTop (mkF m 107 #[oi 4, oi u0, oi u1, oi u2, oi u3] [(.ref b8), (.ref b8), (.ref b5), (.ref b5)])) (fun _ k => XS.dup X11.here hx rfl (hb hby d2_106) rfl rfl k) ?_
  refine own_go (st' := T11.setTop (mkF m 108 #[oi 4, oi u0, oi u1, oi u2, oi u3] [(.int (3 : Int32)), (.ref b8), (.ref b8), (.ref b5), (.ref b5)])) (fun _ k => XS.iconst X11.here hx rfl (hb hby d2_107) k) ?_
  refine own_go (st' := T11.setTop (mkF m 110 #[oi 4, oi u0, oi u1, oi u2, oi u3] [(.int u3), (.int (3 : Int32)), (.ref b8), (.ref b8), (.ref b5), (.ref b5)])) (fun _ k => XS.iload X11.here hx rfl (hb hby d2_108) rfl k) ?_
  obtain ⟨cl12, Ar12, qc12, S12, M12, H12, G12⟩ := id v11
  have hin12 : ¬ ((3 : Int32) < 0 ∨ cl12.slots.size ≤ ((3 : Int32)).toNatClampNeg) := (inb_of S12 ⟨by decide, by decide⟩)
  obtain ⟨T12, h12, X12, e12, W12, st12⟩ := stC X11 hx hZ e11 Ar12 (j := (3 : Int32)) hin12 (g := (mkF m 110 #[oi 4, oi u0, oi u1, oi u2, oi u3] [(.int u3), (.int (3 : Int32)), (.ref b8), (.ref b8), (.ref b5), (.ref b5)])) rfl rfl (hb hby d2_110)
  have sz12 : h12.size = h11.size := W12.size
  have N12 := Fr.snoc X12 N11 (by omega)
  have v12 : Arv Z h12 b8 k8 .char (4 : Int32) [(.int (nar .char u0)), (.int (nar .char u1)), (.int (nar .char u2)), (.int (nar .char u3))] (.int (0 : Int32)) := Arv.set Ar12 qc12 S12 M12 H12 G12 (fits_nar_char _) W12 3 rfl (Nat.le_of_ble_eq_true rfl)
  refine own_go (st' := T12.setTop (mkF m 111 #[oi 4, oi u0, oi u1, oi u2, oi u3] [(.ref b8), (.ref b5), (.ref b5)])) (st12) ?_
  have v13 : Arv Z h12 b8 k8 .char (4 : Int32) [(.int u0), (.int u1), (.int u2), (.int u3)] (.int (0 : Int32)) := by rw [own_lat_ch hl_u0, own_lat_ch hl_u1, own_lat_ch hl_u2, own_lat_ch hl_u3] at v12; exact v12
  have c15 : Exa Z h12 b5 oS0 := (((((A5.ext E8).wr W9).wr W10).wr W11).wr W12)
  have c16 : Fld Z h12 b5 oS0 "value" "[B" .null := (((((f7.ext E8).other W9 (Or.inl (own_ne (by omega)))).other W10 (Or.inl (own_ne (by omega)))).other W11 (Or.inl (own_ne (by omega)))).other W12 (Or.inl (own_ne (by omega))))
  have c17 : Fld Z h12 b5 oS0 "coder" "B" (.int (0 : Int32)) := (((((f6.ext E8).other W9 (Or.inl (own_ne (by omega)))).other W10 (Or.inl (own_ne (by omega)))).other W11 (Or.inl (own_ne (by omega)))).other W12 (Or.inl (own_ne (by omega))))
  have c18 : Sta Z h12 oS0 oS3 "Z" (.int zc) := ((((((pr1.ext E5).ext E8).wr W9).wr W10).wr W11).wr W12)
  obtain ⟨_, _, ⟨T14, LC14, kC14, nC14⟩, -, X14, ⟨Lc14, hQ14, lq14, yq14, zq14⟩, st14⟩ := X12.specialBack hx (y := oM3) rfl hown (mvT hZ (own_hw hw 11)) (mvT hZ (own_hw hw 12)) (mvT hZ (own_hw hw 13)) (by decide) (backOf (W := 1) (rsc_4 l Z a0 hw [] b5 b8 k8 zc u0 u1 u2 u3 h12 n0 (by omega) c15 c16 c17 v13 c18 (by assumption) hl_u0 hl_u1 hl_u2 hl_u3 (by omega) (own_ne (by omega))) hZ (own_hw hw 13) (own_hw hw 9) (by decide) (by decide)) (g := (mkF m 111 #[oi 4, oi u0, oi u1, oi u2, oi u3] [(.ref b8), (.ref b5), (.ref b5)])) rfl (by rw [hml]; rfl) (Steps.refl _) (a := b5) (argsL := [(.ref b8)]) (rest := [(.ref b5)]) (lenOf pd_5 rfl) rfl (by show 2 * 0 + _ ≤ _; exact Nat.le_of_eq rfl) (hb hby d2_111) (fun _ _ => ⟨rfl, e12, (by decide : 2 + 1 ≤ _), (by decide : 8 + 4 ≤ _)⟩)
  dsimp only [Pt.U, Pt.locs, Pt.cells, Pt.slots] at X14 lq14 yq14 zq14 st14 hQ14
  subst lq14 yq14 zq14
  obtain ⟨h14, e14⟩ : ∃ z, T14.heap = z := ⟨_, rfl⟩
  rw [e14] at hQ14
  obtain ⟨r_14, kr_14, rfl, Nq14, K14, g14_0, g14_1, g14_2, g14_3, g14_4⟩ := hQ14
  have sz14 : h12.size ≤ h14.size := K14.1
  have N14 := Fr.app N12 Nq14
  have lt14_1 : @LT.lt Nat _ b5 h14.size := g14_0.lt
  have lt14_2 : @LT.lt Nat _ r_14 h14.size := g14_3.lt
  refine own_go (st' := T14.setTop (mkF m 114 #[oi 4, oi u0, oi u1, oi u2, oi u3] [(.ref b5)])) (fun _ k => st14.trans k) ?_
  obtain ⟨fs, hr, hrun, hended, hW, hsame⟩ := X14.leave (v := some (.ref b5)) (fun h => by rw [Bd.returns] at h; cases h)
  refine ⟨_, _, ?_, hP _ _ hrun hended ⟨_, _, rfl, ?_, ⟨_, rfl⟩, hW, hsame.mono (by decide) (by decide)⟩⟩
  · exact retOut X14 hx Bd.returns rfl (Or.inr (Or.inr (Or.inr (Or.inr ⟨rfl, rfl, rfl⟩)))) (hb hby d2_114) hr
  · show Qrmk_4 Z zc u0 u1 u2 u3 h0 n0 _ T14.heap _
    rw [e14]
    exact ⟨b5, r_14, kr_14, rfl, N14, ((((((((Keep.refl h0 []).ext E5).ext E8).wr W9 (Or.inr (by omega))).wr W10 (Or.inr (by omega))).wr W11 (Or.inr (by omega))).wr W12 (Or.inr (by omega))).trans K14 (allS (P := fun x => x ∈ [] ∨ h0.size ≤ x) (Or.inr (by omega)) all0)), g14_0, g14_1, g14_2, g14_3, (by omega)⟩
theorem d13_0 : decode method_2_code 0 = .ok (.iload_n 0, 1) := by decide +kernel
theorem d13_1 : decode method_2_code 1 = .ok (.iconst 3, 1) := by decide +kernel
theorem d13_2 : decode method_2_code 2 = .ok (.iand, 1) := by decide +kernel
theorem d13_3 : decode method_2_code 3 = .ok (.istore_n 1, 1) := by decide +kernel
theorem d13_4 : decode method_2_code 4 = .ok (.iload_n 1, 1) := by decide +kernel
theorem d13_5 : decode method_2_code 5 = .ok (.ifCond .ne 6, 3) := by decide +kernel
theorem d13_8 : decode method_2_code 8 = .ok (.bipush 48, 2) := by decide +kernel
theorem d13_10 : decode method_2_code 10 = .ok (.ireturn, 1) := by decide +kernel
theorem d13_11 : decode method_2_code 11 = .ok (.iload_n 1, 1) := by decide +kernel
theorem d13_12 : decode method_2_code 12 = .ok (.iconst 1, 1) := by decide +kernel
theorem d13_13 : decode method_2_code 13 = .ok (.if_icmp .ne 6, 3) := by decide +kernel
theorem d13_16 : decode method_2_code 16 = .ok (.bipush 49, 2) := by decide +kernel
theorem d13_18 : decode method_2_code 18 = .ok (.ireturn, 1) := by decide +kernel
theorem d13_19 : decode method_2_code 19 = .ok (.iload_n 1, 1) := by decide +kernel
theorem d13_20 : decode method_2_code 20 = .ok (.iconst 2, 1) := by decide +kernel
theorem d13_21 : decode method_2_code 21 = .ok (.if_icmp .ne 6, 3) := by decide +kernel
theorem d13_24 : decode method_2_code 24 = .ok (.bipush 50, 2) := by decide +kernel
theorem d13_26 : decode method_2_code 26 = .ok (.ireturn, 1) := by decide +kernel
theorem d13_27 : decode method_2_code 27 = .ok (.bipush 46, 2) := by decide +kernel
theorem d13_29 : decode method_2_code 29 = .ok (.ireturn, 1) := by decide +kernel
theorem pn_13 : plainName "com/example/scatterkeep/scatterkeep/protocol/VersionOfPinLaw" = true := by first | (simp [plainName, overriddenIn]; done) | decide +kernel
theorem ef_rm13 (m : MethodId) (x0 : Int32) : entryFrame m #[(.int x0)] 2 = mkF m 0 #[.val (.int x0), .unset] [] := by first | (simp [entryFrame, mkF, argsToLocals, Value.category]; done) | rfl
def Qrm13 (Z : State) (p1 : Int32) (h0 : Heap) (n0 : Nat) (v : Option Value) (h : Heap) (L : List Loc) : Prop := ∃ (r : Int32), (v = some (.int r)) ∧ (Fr n0 L) ∧ (h = h0) ∧ (own_lat r)
set_option maxRecDepth 65536 in
set_option maxHeartbeats 40000000 in
theorem rm13 (l : Launch) (Z : State) (a0 : Array Value) (hw : ∀ d ∈ tables_1, d.before a0 Z = true) (ws : List Jvm.Cond) (p1 : Int32) (h0 : Heap) (n0 : Nat) (Z0 : n0 ≤ h0.size)  :
    MetFree l oM11 (head1 (Jvm.Cond.code oM11 method_2_code 2 (some .char) :: ws) ({ frames := 0, cells := 0, slots := 0, locals := 0 } : Room)) (fun a U => a = #[(.int p1)] ∧ Z.Warmed39 U.vm ∧ U.heap = h0) (fun _ _ _ _ _ => True) (fun _ U o U' => ∃ v L, o = .returned v ∧ Qrm13 Z p1 h0 n0 v U'.heap L ∧ FrameEnd U o U' L ({ frames := 0, cells := 0, slots := 0, locals := 0 } : Room).cells ({ frames := 0, cells := 0, slots := 0, locals := 0 } : Room).slots) := by
  refine MetFree.of_bodySF (plainFor_of_name pn_13) hisR ?_
  intro p e s m args below meth c s₁ Bd hml0 hP0 hK
  obtain ⟨rfl, hZ, hh⟩ := hP0
  have hx := Bd.exec
  have hby := Bd.bytes
  have hml : c.maxLocals = 2 := hml0
  have hown : s.vm.findClass oS6 = some m.cls := findClass_of_methodNamed Bd.named
  have hnm := (name_of_methodNamed Bd.named Bd.method).1
  have X0 : Stand p l e ({ frames := 0, cells := 0, slots := 0, locals := 0 } : Room) s m #[(.int p1)] below meth c s₁ [] 0 0 := Stand.of_body Bd
  have e0 : s₁.heap = h0 := by rw [← hh, Bd.state]; rfl
  have N0 := Fr.nil n0
  suffices own_H : ∀ (P : State → Outcome → Prop), (∀ U o, U.status = .running → Ended U below o → (∃ v L, o = .returned v ∧ Qrm13 Z p1 h0 n0 v U.heap L ∧ FrameEnd s o U L ({ frames := 0, cells := 0, slots := 0, locals := 0 } : Room).cells ({ frames := 0, cells := 0, slots := 0, locals := 0 } : Room).slots) → P U o) → own_Go p.tables e below P (s₁.setTop (mkF m 0 #[oi p1, .unset] [])) from own_go (fun _ k => castTop (ef_rm13 m p1) k) (own_H _ (fun U o h1 h2 h3 => ⟨h1, h2, h3⟩))
  intro P hP
  refine own_go (st' := s₁.setTop (mkF m 1 #[oi p1, .unset] [(.int p1)])) (fun _ k => XS.iloadN X0.here hx rfl (hb hby d13_0) rfl k) ?_
  refine own_go (st' := s₁.setTop (mkF m 2 #[oi p1, .unset] [(.int (3 : Int32)), (.int p1)])) (fun _ k => XS.iconst X0.here hx rfl (hb hby d13_1) k) ?_
  refine own_go (st' := s₁.setTop (mkF m 3 #[oi p1, .unset] [(.int (p1 &&& (3 : Int32)))])) (fun _ k => XS.iand X0.here hx rfl (hb hby d13_2) rfl k) ?_
  refine own_go (st' := s₁.setTop (mkF m 4 #[oi p1, .val (.int (p1 &&& (3 : Int32)))] [])) (fun _ k => XS.istoreN X0.here hx rfl (hb hby d13_3) rfl (l' := #[oi p1, .val (.int (p1 &&& (3 : Int32)))]) rfl k) ?_
  refine own_go (st' := s₁.setTop (mkF m 5 #[oi p1, .val (.int (p1 &&& (3 : Int32)))] [(.int (p1 &&& (3 : Int32)))])) (fun _ k => XS.iloadN X0.here hx rfl (hb hby d13_4) rfl k) ?_
  by_cases hc1 : (p1 &&& (3 : Int32)) = (0 : Int32)
  · --
    refine own_go (st' := s₁.setTop (mkF m 8 #[oi p1, .val (.int (p1 &&& (3 : Int32)))] [])) (fun _ k => XS.ifNo X0.here hx rfl (hb hby d13_5) rfl ((if0 _ _).trans (teq hc1).2) k) ?_
    refine own_go (st' := s₁.setTop (mkF m 10 #[oi p1, .val (.int (p1 &&& (3 : Int32)))] [(.int (48 : Int32))])) (fun _ k => XS.bipush X0.here hx rfl (hb hby d13_8) k) ?_
    obtain ⟨fs, hr, hrun, hended, hW, hsame⟩ := X0.leave (v := some (.int (48 : Int32))) (fun h => by rw [Bd.returns] at h; cases h)
    refine ⟨_, _, ?_, hP _ _ hrun hended ⟨_, _, rfl, ?_, ⟨_, rfl⟩, hW, hsame.mono (by decide) (by decide)⟩⟩
    · exact retN X0 hx (t := .char) Bd.returns (by simp) (hb hby d13_10) hr
    · show Qrm13 Z p1 h0 n0 _ s₁.heap _
      rw [e0]
      exact ⟨(48 : Int32), rfl, N0, rfl, own_l48⟩
  · --
    refine own_go (st' := s₁.setTop (mkF m 11 #[oi p1, .val (.int (p1 &&& (3 : Int32)))] [])) (fun _ k => XS.ifYes X0.here hx rfl (pc0 := 5) (pc' := 11) rfl (hb hby d13_5) rfl ((if0 _ _).trans (feq hc1).2) (by decide) (by decide) k) ?_
    refine own_go (st' := s₁.setTop (mkF m 12 #[oi p1, .val (.int (p1 &&& (3 : Int32)))] [(.int (p1 &&& (3 : Int32)))])) (fun _ k => XS.iloadN X0.here hx rfl (hb hby d13_11) rfl k) ?_
    refine own_go (st' := s₁.setTop (mkF m 13 #[oi p1, .val (.int (p1 &&& (3 : Int32)))] [(.int (1 : Int32)), (.int (p1 &&& (3 : Int32)))])) (fun _ k => XS.iconst X0.here hx rfl (hb hby d13_12) k) ?_
    by_cases hc3 : (p1 &&& (3 : Int32)) = (1 : Int32)
    · --
      refine own_go (st' := s₁.setTop (mkF m 16 #[oi p1, .val (.int (p1 &&& (3 : Int32)))] [])) (fun _ k => XS.icmpNo X0.here hx rfl (hb hby d13_13) rfl (teq hc3).2 k) ?_
      refine own_go (st' := s₁.setTop (mkF m 18 #[oi p1, .val (.int (p1 &&& (3 : Int32)))] [(.int (49 : Int32))])) (fun _ k => XS.bipush X0.here hx rfl (hb hby d13_16) k) ?_
      obtain ⟨fs, hr, hrun, hended, hW, hsame⟩ := X0.leave (v := some (.int (49 : Int32))) (fun h => by rw [Bd.returns] at h; cases h)
      refine ⟨_, _, ?_, hP _ _ hrun hended ⟨_, _, rfl, ?_, ⟨_, rfl⟩, hW, hsame.mono (by decide) (by decide)⟩⟩
      · exact retN X0 hx (t := .char) Bd.returns (by simp) (hb hby d13_18) hr
      · show Qrm13 Z p1 h0 n0 _ s₁.heap _
        rw [e0]
        exact ⟨(49 : Int32), rfl, N0, rfl, own_l49⟩
    · --
      refine own_go (st' := s₁.setTop (mkF m 19 #[oi p1, .val (.int (p1 &&& (3 : Int32)))] [])) (fun _ k => XS.icmpYes X0.here hx rfl (pc0 := 13) (pc' := 19) rfl (hb hby d13_13) rfl (feq hc3).2 (by decide) (by decide) k) ?_
      refine own_go (st' := s₁.setTop (mkF m 20 #[oi p1, .val (.int (p1 &&& (3 : Int32)))] [(.int (p1 &&& (3 : Int32)))])) (fun _ k => XS.iloadN X0.here hx rfl (hb hby d13_19) rfl k) ?_
      refine own_go (st' := s₁.setTop (mkF m 21 #[oi p1, .val (.int (p1 &&& (3 : Int32)))] [(.int (2 : Int32)), (.int (p1 &&& (3 : Int32)))])) (fun _ k => XS.iconst X0.here hx rfl (hb hby d13_20) k) ?_
      by_cases hc5 : (p1 &&& (3 : Int32)) = (2 : Int32)
      · --
        refine own_go (st' := s₁.setTop (mkF m 24 #[oi p1, .val (.int (p1 &&& (3 : Int32)))] [])) (fun _ k => XS.icmpNo X0.here hx rfl (hb hby d13_21) rfl (teq hc5).2 k) ?_
        refine own_go (st' := s₁.setTop (mkF m 26 #[oi p1, .val (.int (p1 &&& (3 : Int32)))] [(.int (50 : Int32))])) (fun _ k => XS.bipush X0.here hx rfl (hb hby d13_24) k) ?_
        obtain ⟨fs, hr, hrun, hended, hW, hsame⟩ := X0.leave (v := some (.int (50 : Int32))) (fun h => by rw [Bd.returns] at h; cases h)
        refine ⟨_, _, ?_, hP _ _ hrun hended ⟨_, _, rfl, ?_, ⟨_, rfl⟩, hW, hsame.mono (by decide) (by decide)⟩⟩
        · exact retN X0 hx (t := .char) Bd.returns (by simp) (hb hby d13_26) hr
        · show Qrm13 Z p1 h0 n0 _ s₁.heap _
          rw [e0]
          exact ⟨(50 : Int32), rfl, N0, rfl, own_l50⟩
      · --
        refine own_go (st' := s₁.setTop (mkF m 27 #[oi p1, .val (.int (p1 &&& (3 : Int32)))] [])) (fun _ k => XS.icmpYes X0.here hx rfl (pc0 := 21) (pc' := 27) rfl (hb hby d13_21) rfl (feq hc5).2 (by decide) (by decide) k) ?_
        refine own_go (st' := s₁.setTop (mkF m 29 #[oi p1, .val (.int (p1 &&& (3 : Int32)))] [(.int (46 : Int32))])) (fun _ k => XS.bipush X0.here hx rfl (hb hby d13_27) k) ?_
        obtain ⟨fs, hr, hrun, hended, hW, hsame⟩ := X0.leave (v := some (.int (46 : Int32))) (fun h => by rw [Bd.returns] at h; cases h)
        refine ⟨_, _, ?_, hP _ _ hrun hended ⟨_, _, rfl, ?_, ⟨_, rfl⟩, hW, hsame.mono (by decide) (by decide)⟩⟩
        · exact retN X0 hx (t := .char) Bd.returns (by simp) (hb hby d13_29) hr
        · show Qrm13 Z p1 h0 n0 _ s₁.heap _
          rw [e0]
          exact ⟨(46 : Int32), rfl, N0, rfl, own_l46⟩
theorem pd_6 : parseMethodDescriptor "(I)C" = some ⟨[.int], some .char⟩ := by decide +kernel
theorem d1_0 : decode method_3_code 0 = .ok (.iload_n 1, 1) := by decide +kernel
theorem d1_1 : decode method_3_code 1 = .ok (.ifCond .eq 10, 3) := by decide +kernel
theorem d1_4 : decode method_3_code 4 = .ok (.iload_n 0, 1) := by decide +kernel
theorem d1_5 : decode method_3_code 5 = .ok (.invokestatic 7, 3) := by decide +kernel
theorem d1_8 : decode method_3_code 8 = .ok (.goto 9, 3) := by decide +kernel
theorem d1_11 : decode method_3_code 11 = .ok (.iload_n 0, 1) := by decide +kernel
theorem d1_12 : decode method_3_code 12 = .ok (.sipush 255, 3) := by decide +kernel
theorem d1_15 : decode method_3_code 15 = .ok (.iand, 1) := by decide +kernel
theorem d1_16 : decode method_3_code 16 = .ok (.i2c, 1) := by decide +kernel
theorem d1_17 : decode method_3_code 17 = .ok (.ireturn, 1) := by decide +kernel
theorem pn_1 : plainName "com/example/scatterkeep/scatterkeep/protocol/VersionOfPinLaw" = true := by first | (simp [plainName, overriddenIn]; done) | decide +kernel
theorem ef_rm1 (m : MethodId) (x0 : Int32) (x1 : Int32) : entryFrame m #[(.int x0), (.int x1)] 2 = mkF m 0 #[.val (.int x0), .val (.int x1)] [] := by first | (simp [entryFrame, mkF, argsToLocals, Value.category]; done) | rfl
def Qrm1 (Z : State) (p1 : Int32) (p2 : Int32) (h0 : Heap) (n0 : Nat) (v : Option Value) (h : Heap) (L : List Loc) : Prop := ∃ (r : Int32), (v = some (.int r)) ∧ (Fr n0 L) ∧ (h = h0) ∧ (own_lat r)
set_option maxRecDepth 65536 in
set_option maxHeartbeats 40000000 in
theorem rm1 (l : Launch) (Z : State) (a0 : Array Value) (hw : ∀ d ∈ tables_1, d.before a0 Z = true) (ws : List Jvm.Cond) (p1 : Int32) (p2 : Int32) (h0 : Heap) (n0 : Nat) (Z0 : n0 ≤ h0.size)  :
    MetFree l oM10 (head1 (Jvm.Cond.code oM10 method_3_code 2 (some .char) :: ws) ({ frames := 1, cells := 0, slots := 0, locals := 13 } : Room)) (fun a U => a = #[(.int p1), (.int p2)] ∧ Z.Warmed39 U.vm ∧ U.heap = h0) (fun _ _ _ _ _ => True) (fun _ U o U' => ∃ v L, o = .returned v ∧ Qrm1 Z p1 p2 h0 n0 v U'.heap L ∧ FrameEnd U o U' L ({ frames := 1, cells := 0, slots := 0, locals := 13 } : Room).cells ({ frames := 1, cells := 0, slots := 0, locals := 13 } : Room).slots) := by
  refine MetFree.of_bodySF (plainFor_of_name pn_1) hisR ?_
  intro p e s m args below meth c s₁ Bd hml0 hP0 hK
  obtain ⟨rfl, hZ, hh⟩ := hP0
  have hx := Bd.exec
  have hby := Bd.bytes
  have hml : c.maxLocals = 2 := hml0
  have hown : s.vm.findClass oS6 = some m.cls := findClass_of_methodNamed Bd.named
  have hnm := (name_of_methodNamed Bd.named Bd.method).1
  have X0 : Stand p l e ({ frames := 1, cells := 0, slots := 0, locals := 13 } : Room) s m #[(.int p1), (.int p2)] below meth c s₁ [] 0 0 := Stand.of_body Bd
  have e0 : s₁.heap = h0 := by rw [← hh, Bd.state]; rfl
  have N0 := Fr.nil n0
  suffices own_H : ∀ (P : State → Outcome → Prop), (∀ U o, U.status = .running → Ended U below o → (∃ v L, o = .returned v ∧ Qrm1 Z p1 p2 h0 n0 v U.heap L ∧ FrameEnd s o U L ({ frames := 1, cells := 0, slots := 0, locals := 13 } : Room).cells ({ frames := 1, cells := 0, slots := 0, locals := 13 } : Room).slots) → P U o) → own_Go p.tables e below P (s₁.setTop (mkF m 0 #[oi p1, oi p2] [])) from own_go (fun _ k => castTop (ef_rm1 m p1 p2) k) (own_H _ (fun U o h1 h2 h3 => ⟨h1, h2, h3⟩))
  intro P hP
  refine own_go (st' := s₁.setTop (mkF m 1 #[oi p1, oi p2] [(.int p2)])) (fun _ k => XS.iloadN X0.here hx rfl (hb hby d1_0) rfl k) ?_
  by_cases hc1 : p2 = (0 : Int32)
  · --
    refine own_go (st' := s₁.setTop (mkF m 11 #[oi p1, oi p2] [])) (fun _ k => XS.ifYes X0.here hx rfl (pc0 := 1) (pc' := 11) rfl (hb hby d1_1) rfl ((if0 _ _).trans (teq hc1).1) (by decide) (by decide) k) ?_
    refine own_go (st' := s₁.setTop (mkF m 12 #[oi p1, oi p2] [(.int p1)])) (fun _ k => XS.iloadN X0.here hx rfl (hb hby d1_11) rfl k) ?_
    refine own_go (st' := s₁.setTop (mkF m 15 #[oi p1, oi p2] [(.int (255 : Int32)), (.int p1)])) (fun _ k => XS.sipush X0.here hx rfl (hb hby d1_12) k) ?_
    refine own_go (st' := s₁.setTop (mkF m 16 #[oi p1, oi p2] [(.int (p1 &&& (255 : Int32)))])) (fun _ k => XS.iand X0.here hx rfl (hb hby d1_15) rfl k) ?_
    refine own_go (st' := s₁.setTop (mkF m 17 #[oi p1, oi p2] [(.int (p1 &&& (255 : Int32)).toUInt32.toUInt16.toUInt32.toInt32)])) (fun _ k => XS.i2c X0.here hx rfl (hb hby d1_16) rfl k) ?_
    obtain ⟨fs, hr, hrun, hended, hW, hsame⟩ := X0.leave (v := some (.int (nar .char (p1 &&& (255 : Int32)).toUInt32.toUInt16.toUInt32.toInt32))) (fun h => by rw [Bd.returns] at h; cases h)
    refine ⟨_, _, ?_, hP _ _ hrun hended ⟨_, _, rfl, ?_, ⟨_, rfl⟩, hW, hsame.mono (by decide) (by decide)⟩⟩
    · exact retN X0 hx (t := .char) Bd.returns (by simp) (hb hby d1_17) hr
    · show Qrm1 Z p1 p2 h0 n0 _ s₁.heap _
      rw [e0]
      exact ⟨(nar .char (p1 &&& (255 : Int32)).toUInt32.toUInt16.toUInt32.toInt32), rfl, N0, rfl, (own_lat_nar _)⟩
  · --
    refine own_go (st' := s₁.setTop (mkF m 4 #[oi p1, oi p2] [])) (fun _ k => XS.ifNo X0.here hx rfl (hb hby d1_1) rfl ((if0 _ _).trans (feq hc1).1) k) ?_
    refine own_go (st' := s₁.setTop (mkF m 5 #[oi p1, oi p2] [(.int p1)])) (fun _ k => XS.iloadN X0.here hx rfl (hb hby d1_4) rfl k) ?_
    obtain ⟨_, _, ⟨T3, LC3, kC3, nC3⟩, -, X3, ⟨Lc3, hQ3, lq3, yq3, zq3⟩, st3⟩ := Jvm.LawKit.callS X0 hx (y := oM11) hown (mvT hZ (own_hw hw 70)) (mvT hZ (own_hw hw 71)) (mvT hZ (own_hw hw 2)) (mvT hZ (own_hw hw 72)) (by decide) (backOf (W := 0) (rm13 l Z a0 hw [] p1 h0 n0 (by omega) ) hZ (own_hw hw 72) (own_hw hw 2) (by decide) (by decide)) (g := (mkF m 5 #[oi p1, oi p2] [(.int p1)])) rfl (by rw [hml]; rfl) (argsL := [(.int p1)]) (rest := []) (lenOf pd_6 rfl) rfl (by show 2 * 0 + _ ≤ _; exact Nat.le_of_eq rfl) (hb hby d1_5) (fun _ _ => ⟨rfl, e0, (by decide : 0 + 0 ≤ _), (by decide : 0 + 0 ≤ _)⟩)
    dsimp only [Pt.U, Pt.locs, Pt.cells, Pt.slots] at X3 lq3 yq3 zq3 st3 hQ3
    subst lq3 yq3 zq3
    obtain ⟨r_3, rfl, Nq3, eq3, g3_0⟩ := hQ3
    skip
    have N3 := Fr.app N0 Nq3
    refine own_go (st' := T3.setTop (mkF m 8 #[oi p1, oi p2] [(.int r_3)])) (fun t k => st3 t k) ?_
    refine own_go (st' := T3.setTop (mkF m 17 #[oi p1, oi p2] [(.int r_3)])) (fun _ k => XS.goto X3.here hx rfl (pc0 := 8) (pc' := 17) rfl (hb hby d1_8) (by decide) (by decide) k) ?_
    obtain ⟨fs, hr, hrun, hended, hW, hsame⟩ := X3.leave (v := some (.int (nar .char r_3))) (fun h => by rw [Bd.returns] at h; cases h)
    refine ⟨_, _, ?_, hP _ _ hrun hended ⟨_, _, rfl, ?_, ⟨_, rfl⟩, hW, hsame.mono (by decide) (by decide)⟩⟩
    · exact retN X3 hx (t := .char) Bd.returns (by simp) (hb hby d1_17) hr
    · show Qrm1 Z p1 p2 h0 n0 _ T3.heap _
      rw [eq3]
      exact ⟨(nar .char r_3), rfl, N3, rfl, (by rw [own_lat_ch g3_0]; exact g3_0)⟩
theorem d10_0 : decode prog_60_method_1_code 0 = .ok (.getstatic 10, 3) := by decide +kernel
theorem d10_3 : decode prog_60_method_1_code 3 = .ok (.invokevirtual 14, 3) := by decide +kernel
theorem d10_6 : decode prog_60_method_1_code 6 = .ok (.checkcast 15, 3) := by decide +kernel
theorem d10_9 : decode prog_60_method_1_code 9 = .ok (.areturn, 1) := by decide +kernel
theorem pn_10 : plainName "com/example/scatterkeep/scatterkeep/protocol/Version" = true := by first | (simp [plainName, overriddenIn]; done) | decide +kernel
theorem ef_rm10 (m : MethodId)  : entryFrame m #[] 0 = mkF m 0 #[] [] := by first | (simp [entryFrame, mkF, argsToLocals, Value.category]; done) | rfl
def Qrm10 (Z : State) (va : Addr) (kva : ClassId) (e_1 : Addr) (e_2 : Addr) (h0 : Heap) (n0 : Nat) (v : Option Value) (h : Heap) (L : List Loc) : Prop := ∃ (r : Addr), (v = some (.ref r)) ∧ (Fr n0 L) ∧ (Keep h0 h []) ∧ (Arv Z h r kva (.object "com/example/scatterkeep/scatterkeep/protocol/Version") (2 : Int32) [(.ref e_1), (.ref e_2)] .null) ∧ (h0.size ≤ r)
set_option maxRecDepth 65536 in
set_option maxHeartbeats 40000000 in
theorem rm10 (l : Launch) (Z : State) (a0 : Array Value) (hw : ∀ d ∈ tables_1, d.before a0 Z = true) (ws : List Jvm.Cond) (va : Addr) (kva : ClassId) (e_1 : Addr) (e_2 : Addr) (h0 : Heap) (n0 : Nat) (Z0 : n0 ≤ h0.size) (pr1 : Sta Z h0 oS1 "$VALUES" oS4 (.ref va)) (pr2 : Arv Z h0 va kva (.object oS1) (2 : Int32) [(.ref e_1), (.ref e_2)] .null) (pr3 : Exa Z h0 va oS4) :
    MetFree l oM9 (head1 (Jvm.Cond.code oM9 prog_60_method_1_code 0 (some (.array (.object oS1))) :: ws) ({ frames := 1, cells := 1, slots := 2, locals := 14 } : Room)) (fun a U => a = #[] ∧ Z.Warmed39 U.vm ∧ U.heap = h0) (fun _ _ _ _ _ => True) (fun _ U o U' => ∃ v L, o = .returned v ∧ Qrm10 Z va kva e_1 e_2 h0 n0 v U'.heap L ∧ FrameEnd U o U' L ({ frames := 1, cells := 1, slots := 2, locals := 14 } : Room).cells ({ frames := 1, cells := 1, slots := 2, locals := 14 } : Room).slots) := by
  refine MetFree.of_bodySF (plainFor_of_name pn_10) hisR ?_
  intro p e s m args below meth c s₁ Bd hml0 hP0 hK
  obtain ⟨rfl, hZ, hh⟩ := hP0
  have hx := Bd.exec
  have hby := Bd.bytes
  have hml : c.maxLocals = 0 := hml0
  have hown : s.vm.findClass oS1 = some m.cls := findClass_of_methodNamed Bd.named
  have hnm := (name_of_methodNamed Bd.named Bd.method).1
  have X0 : Stand p l e ({ frames := 1, cells := 1, slots := 2, locals := 14 } : Room) s m #[] below meth c s₁ [] 0 0 := Stand.of_body Bd
  have e0 : s₁.heap = h0 := by rw [← hh, Bd.state]; rfl
  have N0 := Fr.nil n0
  suffices own_H : ∀ (P : State → Outcome → Prop), (∀ U o, U.status = .running → Ended U below o → (∃ v L, o = .returned v ∧ Qrm10 Z va kva e_1 e_2 h0 n0 v U.heap L ∧ FrameEnd s o U L ({ frames := 1, cells := 1, slots := 2, locals := 14 } : Room).cells ({ frames := 1, cells := 1, slots := 2, locals := 14 } : Room).slots) → P U o) → own_Go p.tables e below P (s₁.setTop (mkF m 0 #[] [])) from own_go (fun _ k => castTop (ef_rm10 m ) k) (own_H _ (fun U o h1 h2 h3 => ⟨h1, h2, h3⟩))
  intro P hP
  have lt_va : @LT.lt Nat _ va h0.size := pr2.lt
  obtain ⟨T1, X1, e1, st1⟩ := getS2 X0 hx hZ hown (host := "") (Or.inl (own_hw hw 44)) Via.refl e0 pr1 (g := (mkF m 0 #[] [])) rfl (hb hby d10_0)
  refine own_go (st' := T1.setTop (mkF m 3 #[] [(.ref va)])) (st1) ?_
  obtain ⟨T2, h2, X2, e2, E2, A2, EX2, st2⟩ := cloneH X1 hx hZ hown (own_hw hw 46) (own_hw hw 47) (own_hw hw 51) (own_hw hw 49) (own_hw hw 50) (own_hw hw 52) e1 (Arv.arh pr2) pr3 (g := (mkF m 3 #[] [(.ref va)])) rfl (by rw [hml]; rfl) rfl (hb hby d10_3) (by decide) (W := 0) (cap := 2) (by show 2 * 0 + _ ≤ _; exact Nat.le_of_eq rfl) (by decide) (by decide) (by decide) (by decide)
  obtain ⟨b2, g2⟩ : ∃ z, z = h0.size := ⟨_, rfl⟩
  rw [← g2] at A2 EX2 st2
  have sz2 : h0.size ≤ h2.size := E2.1
  have lt2 : @LT.lt Nat _ b2 h2.size := EX2.lt
  have v2 : Arv Z h2 b2 kva (.object oS1) (2 : Int32) [(.ref e_1), (.ref e_2)] .null := A2
  refine own_go (st' := T2.setTop (mkF m 6 #[] [(.ref b2)])) (st2) ?_
  obtain ⟨T3, X3, e3, st3⟩ := castY X2 hx hZ hown (own_hw hw 56) e2 (Ins.self EX2) (g := (mkF m 6 #[] [(.ref b2)])) rfl rfl (hb hby d10_6)
  refine own_go (st' := T3.setTop (mkF m 9 #[] [(.ref b2)])) (st3) ?_
  obtain ⟨fs, hr, hrun, hended, hW, hsame⟩ := X3.leave (v := some (.ref b2)) (fun h => by rw [Bd.returns] at h; cases h)
  refine ⟨_, _, ?_, hP _ _ hrun hended ⟨_, _, rfl, ?_, ⟨_, rfl⟩, hW, hsame.mono (by decide) (by decide)⟩⟩
  · exact retOut X3 hx Bd.returns rfl (Or.inr (Or.inr (Or.inr (Or.inr ⟨rfl, rfl, rfl⟩)))) (hb hby d10_9) hr
  · show Qrm10 Z va kva e_1 e_2 h0 n0 _ T3.heap _
    rw [e3]
    exact ⟨b2, rfl, N0, ((Keep.refl h0 []).ext E2), v2, (by omega)⟩
theorem pd_7 : parseMethodDescriptor "()[Lcom/example/scatterkeep/scatterkeep/protocol/Version;" = some ⟨[], some (.array (.object "com/example/scatterkeep/scatterkeep/protocol/Version"))⟩ := by decide +kernel
theorem pd_8 : parseMethodDescriptor "(Ljava/lang/Object;)Z" = some ⟨[(.object "java/lang/Object")], some .boolean⟩ := by decide +kernel
theorem d9_0 : decode prog_60_method_5_code 0 = .ok (.invokestatic 33, 3) := by decide +kernel
theorem d9_3 : decode prog_60_method_5_code 3 = .ok (.astore_n 1, 1) := by decide +kernel
theorem d9_4 : decode prog_60_method_5_code 4 = .ok (.aload_n 1, 1) := by decide +kernel
theorem d9_5 : decode prog_60_method_5_code 5 = .ok (.arraylength, 1) := by decide +kernel
theorem d9_6 : decode prog_60_method_5_code 6 = .ok (.istore_n 2, 1) := by decide +kernel
theorem d9_7 : decode prog_60_method_5_code 7 = .ok (.iconst 0, 1) := by decide +kernel
theorem d9_8 : decode prog_60_method_5_code 8 = .ok (.istore_n 3, 1) := by decide +kernel
theorem d9_9 : decode prog_60_method_5_code 9 = .ok (.iload_n 3, 1) := by decide +kernel
theorem d9_10 : decode prog_60_method_5_code 10 = .ok (.iload_n 2, 1) := by decide +kernel
theorem d9_11 : decode prog_60_method_5_code 11 = .ok (.if_icmp .ge 29, 3) := by decide +kernel
theorem d9_14 : decode prog_60_method_5_code 14 = .ok (.aload_n 1, 1) := by decide +kernel
theorem d9_15 : decode prog_60_method_5_code 15 = .ok (.iload_n 3, 1) := by decide +kernel
theorem d9_16 : decode prog_60_method_5_code 16 = .ok (.aaload, 1) := by decide +kernel
theorem d9_17 : decode prog_60_method_5_code 17 = .ok (.astore 4, 2) := by decide +kernel
theorem d9_19 : decode prog_60_method_5_code 19 = .ok (.aload 4, 2) := by decide +kernel
theorem d9_21 : decode prog_60_method_5_code 21 = .ok (.getfield 29, 3) := by decide +kernel
theorem d9_24 : decode prog_60_method_5_code 24 = .ok (.aload_n 0, 1) := by decide +kernel
theorem d9_25 : decode prog_60_method_5_code 25 = .ok (.invokevirtual 37, 3) := by decide +kernel
theorem d9_28 : decode prog_60_method_5_code 28 = .ok (.ifCond .eq 6, 3) := by decide +kernel
theorem d9_34 : decode prog_60_method_5_code 34 = .ok (.iinc 3 1, 3) := by decide +kernel
theorem d9_37 : decode prog_60_method_5_code 37 = .ok (.goto (-28), 3) := by decide +kernel
theorem d9_40 : decode prog_60_method_5_code 40 = .ok (.aconst_null, 1) := by decide +kernel
theorem d9_41 : decode prog_60_method_5_code 41 = .ok (.areturn, 1) := by decide +kernel
theorem pn_9 : plainName "com/example/scatterkeep/scatterkeep/protocol/Version" = true := by first | (simp [plainName, overriddenIn]; done) | decide +kernel
theorem ef_rof_null (m : MethodId)  : entryFrame m #[.null] 5 = mkF m 0 #[.val .null, .unset, .unset, .unset, .unset] [] := by first | (simp [entryFrame, mkF, argsToLocals, Value.category]; done) | rfl
def Qrof_null (Z : State) (va : Addr) (kva : ClassId) (e_1 : Addr) (e_2 : Addr) (t_1 : Addr) (tv_1 : Addr) (tk_1 : ClassId) (t_2 : Addr) (tv_2 : Addr) (tk_2 : ClassId) (zc : Int32) (h0 : Heap) (n0 : Nat) (v : Option Value) (h : Heap) (L : List Loc) : Prop := (v = some .null) ∧ (Fr n0 L) ∧ (Keep h0 h [])
set_option maxRecDepth 65536 in
set_option maxHeartbeats 40000000 in
theorem rof_null (l : Launch) (Z : State) (a0 : Array Value) (hw : ∀ d ∈ tables_1, d.before a0 Z = true) (ws : List Jvm.Cond) (va : Addr) (kva : ClassId) (e_1 : Addr) (e_2 : Addr) (t_1 : Addr) (tv_1 : Addr) (tk_1 : ClassId) (t_2 : Addr) (tv_2 : Addr) (tk_2 : ClassId) (zc : Int32) (h0 : Heap) (n0 : Nat) (Z0 : n0 ≤ h0.size) (pr1 : Sta Z h0 oS0 oS3 "Z" (.int zc)) (hzc : ¬ zc = (0 : Int32)) (pr2 : Sta Z h0 oS1 "$VALUES" oS4 (.ref va)) (pr3 : Arv Z h0 va kva (.object oS1) (2 : Int32) [(.ref e_1), (.ref e_2)] .null) (pr4 : Exa Z h0 va oS4) (pr5 : Exa Z h0 e_1 oS1) (pr6 : Exa Z h0 e_2 oS1) (pr7 : Fld Z h0 e_1 oS1 "m_sText" oS2 (.ref t_1)) (pr8 : Exa Z h0 t_1 oS0) (pr9 : Fld Z h0 t_1 oS0 "value" "[B" (.ref tv_1)) (pr10 : Fld Z h0 t_1 oS0 "coder" "B" (.int (0 : Int32))) (pr11 : Arv Z h0 tv_1 tk_1 .byte (3 : Int32) [(.int (49 : Int32)), (.int (46 : Int32)), (.int (48 : Int32))] (.int (0 : Int32))) (pr12 : Fld Z h0 e_2 oS1 "m_sText" oS2 (.ref t_2)) (pr13 : Exa Z h0 t_2 oS0) (pr14 : Fld Z h0 t_2 oS0 "value" "[B" (.ref tv_2)) (pr15 : Fld Z h0 t_2 oS0 "coder" "B" (.int (0 : Int32))) (pr16 : Arv Z h0 tv_2 tk_2 .byte (3 : Int32) [(.int (50 : Int32)), (.int (46 : Int32)), (.int (48 : Int32))] (.int (0 : Int32))) :
    MetFree l oM1 (head1 (Jvm.Cond.code oM1 prog_60_method_5_code 5 (some (.object oS1)) :: ws) ({ frames := 2, cells := 1, slots := 2, locals := 25 } : Room)) (fun a U => a = #[.null] ∧ Z.Warmed39 U.vm ∧ U.heap = h0) (fun _ _ _ _ _ => True) (fun _ U o U' => ∃ v L, o = .returned v ∧ Qrof_null Z va kva e_1 e_2 t_1 tv_1 tk_1 t_2 tv_2 tk_2 zc h0 n0 v U'.heap L ∧ FrameEnd U o U' L ({ frames := 2, cells := 1, slots := 2, locals := 25 } : Room).cells ({ frames := 2, cells := 1, slots := 2, locals := 25 } : Room).slots) := by
  refine MetFree.of_bodySF (plainFor_of_name pn_9) hisR ?_
  intro p e s m args below meth c s₁ Bd hml0 hP0 hK
  obtain ⟨rfl, hZ, hh⟩ := hP0
  have hx := Bd.exec
  have hby := Bd.bytes
  have hml : c.maxLocals = 5 := hml0
  have hown : s.vm.findClass oS1 = some m.cls := findClass_of_methodNamed Bd.named
  have hnm := (name_of_methodNamed Bd.named Bd.method).1
  have X0 : Stand p l e ({ frames := 2, cells := 1, slots := 2, locals := 25 } : Room) s m #[.null] below meth c s₁ [] 0 0 := Stand.of_body Bd
  have e0 : s₁.heap = h0 := by rw [← hh, Bd.state]; rfl
  have N0 := Fr.nil n0
  suffices own_H : ∀ (P : State → Outcome → Prop), (∀ U o, U.status = .running → Ended U below o → (∃ v L, o = .returned v ∧ Qrof_null Z va kva e_1 e_2 t_1 tv_1 tk_1 t_2 tv_2 tk_2 zc h0 n0 v U.heap L ∧ FrameEnd s o U L ({ frames := 2, cells := 1, slots := 2, locals := 25 } : Room).cells ({ frames := 2, cells := 1, slots := 2, locals := 25 } : Room).slots) → P U o) → own_Go p.tables e below P (s₁.setTop (mkF m 0 #[.val .null, .unset, .unset, .unset, .unset] [])) from own_go (fun _ k => castTop (ef_rof_null m ) k) (own_H _ (fun U o h1 h2 h3 => ⟨h1, h2, h3⟩))
  intro P hP
  have lt_va : @LT.lt Nat _ va h0.size := pr3.lt
  have lt_e_1 : @LT.lt Nat _ e_1 h0.size := pr5.lt
  have lt_e_2 : @LT.lt Nat _ e_2 h0.size := pr6.lt
  have lt_t_1 : @LT.lt Nat _ t_1 h0.size := pr8.lt
  have lt_tv_1 : @LT.lt Nat _ tv_1 h0.size := pr11.lt
  have lt_t_2 : @LT.lt Nat _ t_2 h0.size := pr13.lt
  have lt_tv_2 : @LT.lt Nat _ tv_2 h0.size := pr16.lt
  obtain ⟨_, _, ⟨T1, LC1, kC1, nC1⟩, -, X1, ⟨Lc1, hQ1, lq1, yq1, zq1⟩, st1⟩ := Jvm.LawKit.callS X0 hx (y := oM9) hown (mvT hZ (own_hw hw 41)) (mvT hZ (own_hw hw 42)) (mvT hZ (own_hw hw 39)) (mvT hZ (own_hw hw 43)) (by decide) (backOf (W := 0) (rm10 l Z a0 hw [] va kva e_1 e_2 h0 n0 (by omega) pr2 pr3 pr4) hZ (own_hw hw 43) (own_hw hw 39) (by decide) (by decide)) (g := (mkF m 0 #[.val .null, .unset, .unset, .unset, .unset] [])) rfl (by rw [hml]; rfl) (argsL := []) (rest := []) (lenOf pd_7 rfl) rfl (by show 2 * 0 + _ ≤ _; exact Nat.le_of_eq rfl) (hb hby d9_0) (fun _ _ => ⟨rfl, e0, (by decide : 0 + 1 ≤ _), (by decide : 0 + 2 ≤ _)⟩)
  dsimp only [Pt.U, Pt.locs, Pt.cells, Pt.slots] at X1 lq1 yq1 zq1 st1 hQ1
  subst lq1 yq1 zq1
  obtain ⟨h1, e1⟩ : ∃ z, T1.heap = z := ⟨_, rfl⟩
  rw [e1] at hQ1
  obtain ⟨r_1, rfl, Nq1, K1, g1_0, g1_1⟩ := hQ1
  have sz1 : h0.size ≤ h1.size := K1.1
  have N1 := Fr.app N0 Nq1
  have lt1_1 : @LT.lt Nat _ r_1 h1.size := g1_0.lt
  refine own_go (st' := T1.setTop (mkF m 3 #[.val .null, .unset, .unset, .unset, .unset] [(.ref r_1)])) (fun t k => st1 t k) ?_
  refine own_go (st' := T1.setTop (mkF m 4 #[.val .null, oR r_1, .unset, .unset, .unset] [])) (fun _ k => XS.astoreN X1.here hx rfl (hb hby d9_3) rfl rfl (l' := #[.val .null, oR r_1, .unset, .unset, .unset]) rfl k) ?_
  refine own_go (st' := T1.setTop (mkF m 5 #[.val .null, oR r_1, .unset, .unset, .unset] [(.ref r_1)])) (fun _ k => XS.aloadN X1.here hx rfl (hb hby d9_4) rfl rfl k) ?_
  obtain ⟨cl2, Ar2, -, S2, M2, -, -⟩ := id g1_0
  refine own_go (st' := T1.setTop (mkF m 6 #[.val .null, oR r_1, .unset, .unset, .unset] [(.int (2 : Int32))])) (fun t k => X1.arraylength hx (by rw [e1]; exact Ar2.1) (State.isArrayOf_alike hZ.alike Ar2.2.1) (g := (mkF m 5 #[.val .null, oR r_1, .unset, .unset, .unset] [(.ref r_1)])) rfl rfl (hb hby d9_5) t (by rw [len_of S2 M2]; exact k)) ?_
  refine own_go (st' := T1.setTop (mkF m 7 #[.val .null, oR r_1, oi 2, .unset, .unset] [])) (fun _ k => XS.istoreN X1.here hx rfl (hb hby d9_6) rfl (l' := #[.val .null, oR r_1, oi 2, .unset, .unset]) rfl k) ?_
  refine own_go (st' := T1.setTop (mkF m 8 #[.val .null, oR r_1, oi 2, .unset, .unset] [(.int (0 : Int32))])) (fun _ k => XS.iconst X1.here hx rfl (hb hby d9_7) k) ?_
  refine own_go (st' := T1.setTop (mkF m 9 #[.val .null, oR r_1, oi 2, oi 0, .unset] [])) (fun _ k => XS.istoreN X1.here hx rfl (hb hby d9_8) rfl (l' := #[.val .null, oR r_1, oi 2, oi 0, .unset]) rfl k) ?_
  refine own_go (st' := T1.setTop (mkF m 10 #[.val .null, oR r_1, oi 2, oi 0, .unset] [(.int (0 : Int32))])) (fun _ k => XS.iloadN X1.here hx rfl (hb hby d9_9) rfl k) ?_
  refine own_go (st' := T1.setTop (mkF m 11 #[.val .null, oR r_1, oi 2, oi 0, .unset] [(.int (2 : Int32)), (.int (0 : Int32))])) (fun _ k => XS.iloadN X1.here hx rfl (hb hby d9_10) rfl k) ?_
  have hc3 : (0 : Int32) < (2 : Int32) := by decide
  refine own_go (st' := T1.setTop (mkF m 14 #[.val .null, oR r_1, oi 2, oi 0, .unset] [])) (fun _ k => XS.icmpNo X1.here hx rfl (hb hby d9_11) rfl (tlt hc3).2.1 k) ?_
  refine own_go (st' := T1.setTop (mkF m 15 #[.val .null, oR r_1, oi 2, oi 0, .unset] [(.ref r_1)])) (fun _ k => XS.aloadN X1.here hx rfl (hb hby d9_14) rfl rfl k) ?_
  refine own_go (st' := T1.setTop (mkF m 16 #[.val .null, oR r_1, oi 2, oi 0, .unset] [(.int (0 : Int32)), (.ref r_1)])) (fun _ k => XS.iloadN X1.here hx rfl (hb hby d9_15) rfl k) ?_
  obtain ⟨cl4, Ar4, -, S4, M4, H4, -⟩ := id g1_0
  have hin4 : ¬ ((0 : Int32) < 0 ∨ cl4.slots.size ≤ ((0 : Int32)).toNatClampNeg) := (inb_of S4 ⟨by decide, by decide⟩)
  have hat4 : cl4.slots[((0 : Int32)).toNatClampNeg]? = some (.ref e_1) := (H4.at hin4 rfl)
  refine own_go (st' := T1.setTop (mkF m 17 #[.val .null, oR r_1, oi 2, oi 0, .unset] [(.ref e_1)])) (X1.aaload hx (j := (0 : Int32)) (v := (.ref e_1)) (by rw [e1]; exact Ar4.1) (State.isArrayOf_alike hZ.alike Ar4.2.1) rfl Ar4.2.2 hin4 hat4 (g := (mkF m 16 #[.val .null, oR r_1, oi 2, oi 0, .unset] [(.int (0 : Int32)), (.ref r_1)])) rfl rfl (hb hby d9_16)) ?_
  refine own_go (st' := T1.setTop (mkF m 19 #[.val .null, oR r_1, oi 2, oi 0, oR e_1] [])) (fun _ k => XS.astore X1.here hx rfl (hb hby d9_17) rfl rfl (l' := #[.val .null, oR r_1, oi 2, oi 0, oR e_1]) rfl k) ?_
  refine own_go (st' := T1.setTop (mkF m 21 #[.val .null, oR r_1, oi 2, oi 0, oR e_1] [(.ref e_1)])) (fun _ k => XS.aload X1.here hx rfl (hb hby d9_19) rfl rfl k) ?_
  have c5 : Fld Z h1 e_1 oS1 "m_sText" oS2 (.ref t_1) := (pr7.keep K1 nin0)
  obtain ⟨T6, X6, e6, st6⟩ := getF X1 hx hZ hown (host := "") (Or.inl (own_hw hw 58)) Via.refl e1 c5 (g := (mkF m 21 #[.val .null, oR r_1, oi 2, oi 0, oR e_1] [(.ref e_1)])) rfl rfl (hb hby d9_21)
  refine own_go (st' := T6.setTop (mkF m 24 #[.val .null, oR r_1, oi 2, oi 0, oR e_1] [(.ref t_1)])) (st6) ?_
  refine own_go (st' := T6.setTop (mkF m 25 #[.val .null, oR r_1, oi 2, oi 0, oR e_1] [.null, (.ref t_1)])) (fun _ k => XS.aloadN X6.here hx rfl (hb hby d9_24) rfl rfl k) ?_
  have c8 : Exa Z h1 t_1 oS0 := (pr8.keep K1)
  obtain ⟨cq7, kq7, q7a, q7b, q7c⟩ := isOf hZ e6 c8
  obtain ⟨_, _, ⟨T7, LC7, kC7, nC7⟩, -, X7, ⟨Lc7, hQ7, lq7, yq7, zq7⟩, st7⟩ := X6.virtualBack hx (y := oM0) (z := oM0) hown (mvT hZ (own_hw hw 60)) (mvT hZ (own_hw hw 61)) (notFace_of_selects (args := #[]) (mvT hZ (own_hw hw 63))) (mvT hZ (own_hw hw 63)) (mvT hZ (own_hw hw 62)) (by decide) (backOf (W := 0) (rse_null l Z a0 hw [] t_1 h1 n0 (by omega) ) hZ (own_hw hw 64) (own_hw hw 9) (by decide) (by decide)) q7a q7c (g := (mkF m 25 #[.val .null, oR r_1, oi 2, oi 0, oR e_1] [.null, (.ref t_1)])) rfl (by rw [hml]; rfl) (Steps.refl _) (argsL := [.null]) (rest := []) (lenOf pd_8 rfl) rfl (by show 2 * 0 + _ ≤ _; exact Nat.le_of_eq rfl) (hb hby d9_25) (fun _ _ => ⟨rfl, e6, (by decide : 1 + 0 ≤ _), (by decide : 2 + 0 ≤ _)⟩)
  dsimp only [Pt.U, Pt.locs, Pt.cells, Pt.slots] at X7 lq7 yq7 zq7 st7 hQ7
  subst lq7 yq7 zq7
  obtain ⟨rfl, Nq7, eq7⟩ := hQ7
  have N7 := Fr.app N1 Nq7
  refine own_go (st' := T7.setTop (mkF m 28 #[.val .null, oR r_1, oi 2, oi 0, oR e_1] [(.int (0 : Int32))])) (fun _ k => st7.trans k) ?_
  have hc9 : (0 : Int32) = (0 : Int32) := by decide
  refine own_go (st' := T7.setTop (mkF m 34 #[.val .null, oR r_1, oi 2, oi 0, oR e_1] [])) (fun _ k => XS.ifYes X7.here hx rfl (pc0 := 28) (pc' := 34) rfl (hb hby d9_28) rfl ((if0 _ _).trans (teq hc9).1) (by decide) (by decide) k) ?_
  refine own_go (st' := T7.setTop (mkF m 37 #[.val .null, oR r_1, oi 2, oi 1, oR e_1] [])) (fun _ k => XS.iinc X7.here hx rfl (hb hby d9_34) rfl (l' := #[.val .null, oR r_1, oi 2, oi 1, oR e_1]) (by rw [show ((0 : Int32) + Int32.ofInt 1) = (1 : Int32) by decide]; rfl) k) ?_
  refine own_go (st' := T7.setTop (mkF m 9 #[.val .null, oR r_1, oi 2, oi 1, oR e_1] [])) (fun _ k => XS.goto X7.here hx rfl (pc0 := 37) (pc' := 9) rfl (hb hby d9_37) (by decide) (by decide) k) ?_
  refine own_go (st' := T7.setTop (mkF m 10 #[.val .null, oR r_1, oi 2, oi 1, oR e_1] [(.int (1 : Int32))])) (fun _ k => XS.iloadN X7.here hx rfl (hb hby d9_9) rfl k) ?_
  refine own_go (st' := T7.setTop (mkF m 11 #[.val .null, oR r_1, oi 2, oi 1, oR e_1] [(.int (2 : Int32)), (.int (1 : Int32))])) (fun _ k => XS.iloadN X7.here hx rfl (hb hby d9_10) rfl k) ?_
  have hc10 : (1 : Int32) < (2 : Int32) := by decide
  refine own_go (st' := T7.setTop (mkF m 14 #[.val .null, oR r_1, oi 2, oi 1, oR e_1] [])) (fun _ k => XS.icmpNo X7.here hx rfl (hb hby d9_11) rfl (tlt hc10).2.1 k) ?_
  refine own_go (st' := T7.setTop (mkF m 15 #[.val .null, oR r_1, oi 2, oi 1, oR e_1] [(.ref r_1)])) (fun _ k => XS.aloadN X7.here hx rfl (hb hby d9_14) rfl rfl k) ?_
  refine own_go (st' := T7.setTop (mkF m 16 #[.val .null, oR r_1, oi 2, oi 1, oR e_1] [(.int (1 : Int32)), (.ref r_1)])) (fun _ k => XS.iloadN X7.here hx rfl (hb hby d9_15) rfl k) ?_
  obtain ⟨cl11, Ar11, -, S11, M11, H11, -⟩ := id g1_0
  have hin11 : ¬ ((1 : Int32) < 0 ∨ cl11.slots.size ≤ ((1 : Int32)).toNatClampNeg) := (inb_of S11 ⟨by decide, by decide⟩)
  have hat11 : cl11.slots[((1 : Int32)).toNatClampNeg]? = some (.ref e_2) := (H11.at hin11 rfl)
  refine own_go (st' := T7.setTop (mkF m 17 #[.val .null, oR r_1, oi 2, oi 1, oR e_1] [(.ref e_2)])) (X7.aaload hx (j := (1 : Int32)) (v := (.ref e_2)) (by rw [eq7]; exact Ar11.1) (State.isArrayOf_alike hZ.alike Ar11.2.1) rfl Ar11.2.2 hin11 hat11 (g := (mkF m 16 #[.val .null, oR r_1, oi 2, oi 1, oR e_1] [(.int (1 : Int32)), (.ref r_1)])) rfl rfl (hb hby d9_16)) ?_
  refine own_go (st' := T7.setTop (mkF m 19 #[.val .null, oR r_1, oi 2, oi 1, oR e_2] [])) (fun _ k => XS.astore X7.here hx rfl (hb hby d9_17) rfl rfl (l' := #[.val .null, oR r_1, oi 2, oi 1, oR e_2]) rfl k) ?_
  refine own_go (st' := T7.setTop (mkF m 21 #[.val .null, oR r_1, oi 2, oi 1, oR e_2] [(.ref e_2)])) (fun _ k => XS.aload X7.here hx rfl (hb hby d9_19) rfl rfl k) ?_
  have c12 : Fld Z h1 e_2 oS1 "m_sText" oS2 (.ref t_2) := (pr12.keep K1 nin0)
  obtain ⟨T13, X13, e13, st13⟩ := getF X7 hx hZ hown (host := "") (Or.inl (own_hw hw 58)) Via.refl eq7 c12 (g := (mkF m 21 #[.val .null, oR r_1, oi 2, oi 1, oR e_2] [(.ref e_2)])) rfl rfl (hb hby d9_21)
  refine own_go (st' := T13.setTop (mkF m 24 #[.val .null, oR r_1, oi 2, oi 1, oR e_2] [(.ref t_2)])) (st13) ?_
  refine own_go (st' := T13.setTop (mkF m 25 #[.val .null, oR r_1, oi 2, oi 1, oR e_2] [.null, (.ref t_2)])) (fun _ k => XS.aloadN X13.here hx rfl (hb hby d9_24) rfl rfl k) ?_
  have c15 : Exa Z h1 t_2 oS0 := (pr13.keep K1)
  obtain ⟨cq14, kq14, q14a, q14b, q14c⟩ := isOf hZ e13 c15
  obtain ⟨_, _, ⟨T14, LC14, kC14, nC14⟩, -, X14, ⟨Lc14, hQ14, lq14, yq14, zq14⟩, st14⟩ := X13.virtualBack hx (y := oM0) (z := oM0) hown (mvT hZ (own_hw hw 60)) (mvT hZ (own_hw hw 61)) (notFace_of_selects (args := #[]) (mvT hZ (own_hw hw 63))) (mvT hZ (own_hw hw 63)) (mvT hZ (own_hw hw 62)) (by decide) (backOf (W := 0) (rse_null l Z a0 hw [] t_2 h1 n0 (by omega) ) hZ (own_hw hw 64) (own_hw hw 9) (by decide) (by decide)) q14a q14c (g := (mkF m 25 #[.val .null, oR r_1, oi 2, oi 1, oR e_2] [.null, (.ref t_2)])) rfl (by rw [hml]; rfl) (Steps.refl _) (argsL := [.null]) (rest := []) (lenOf pd_8 rfl) rfl (by show 2 * 0 + _ ≤ _; exact Nat.le_of_eq rfl) (hb hby d9_25) (fun _ _ => ⟨rfl, e13, (by decide : 1 + 0 ≤ _), (by decide : 2 + 0 ≤ _)⟩)
  dsimp only [Pt.U, Pt.locs, Pt.cells, Pt.slots] at X14 lq14 yq14 zq14 st14 hQ14
  subst lq14 yq14 zq14
  obtain ⟨rfl, Nq14, eq14⟩ := hQ14
  have N14 := Fr.app N7 Nq14
  refine own_go (st' := T14.setTop (mkF m 28 #[.val .null, oR r_1, oi 2, oi 1, oR e_2] [(.int (0 : Int32))])) (fun _ k => st14.trans k) ?_
  have hc16 : (0 : Int32) = (0 : Int32) := by decide
  refine own_go (st' := T14.setTop (mkF m 34 #[.val .null, oR r_1, oi 2, oi 1, oR e_2] [])) (fun _ k => XS.ifYes X14.here hx rfl (pc0 := 28) (pc' := 34) rfl (hb hby d9_28) rfl ((if0 _ _).trans (teq hc16).1) (by decide) (by decide) k) ?_
  refine own_go (st' := T14.setTop (mkF m 37 #[.val .null, oR r_1, oi 2, oi 2, oR e_2] [])) (fun _ k => XS.iinc X14.here hx rfl (hb hby d9_34) rfl (l' := #[.val .null, oR r_1, oi 2, oi 2, oR e_2]) (by rw [show ((1 : Int32) + Int32.ofInt 1) = (2 : Int32) by decide]; rfl) k) ?_
  refine own_go (st' := T14.setTop (mkF m 9 #[.val .null, oR r_1, oi 2, oi 2, oR e_2] [])) (fun _ k => XS.goto X14.here hx rfl (pc0 := 37) (pc' := 9) rfl (hb hby d9_37) (by decide) (by decide) k) ?_
  refine own_go (st' := T14.setTop (mkF m 10 #[.val .null, oR r_1, oi 2, oi 2, oR e_2] [(.int (2 : Int32))])) (fun _ k => XS.iloadN X14.here hx rfl (hb hby d9_9) rfl k) ?_
  refine own_go (st' := T14.setTop (mkF m 11 #[.val .null, oR r_1, oi 2, oi 2, oR e_2] [(.int (2 : Int32)), (.int (2 : Int32))])) (fun _ k => XS.iloadN X14.here hx rfl (hb hby d9_10) rfl k) ?_
  have hc17 : ¬ ((2 : Int32) < (2 : Int32)) := by decide
  refine own_go (st' := T14.setTop (mkF m 40 #[.val .null, oR r_1, oi 2, oi 2, oR e_2] [])) (fun _ k => XS.icmpYes X14.here hx rfl (pc0 := 11) (pc' := 40) rfl (hb hby d9_11) rfl (flt hc17).2.1 (by decide) (by decide) k) ?_
  refine own_go (st' := T14.setTop (mkF m 41 #[.val .null, oR r_1, oi 2, oi 2, oR e_2] [.null])) (fun _ k => XS.aconstNull X14.here hx rfl (hb hby d9_40) k) ?_
  obtain ⟨fs, hr, hrun, hended, hW, hsame⟩ := X14.leave (v := some .null) (fun h => by rw [Bd.returns] at h; cases h)
  refine ⟨_, _, ?_, hP _ _ hrun hended ⟨_, _, rfl, ?_, ⟨_, rfl⟩, hW, hsame.mono (by decide) (by decide)⟩⟩
  · exact retOut X14 hx Bd.returns rfl (Or.inr (Or.inr (Or.inr (Or.inr ⟨rfl, rfl, rfl⟩)))) (hb hby d9_41) hr
  · show Qrof_null Z va kva e_1 e_2 t_1 tv_1 tk_1 t_2 tv_2 tk_2 zc h0 n0 _ T14.heap _
    rw [eq14]
    exact ⟨rfl, N14, ((Keep.refl h0 []).trans K1 all0)⟩
theorem ef_rof_0 (m : MethodId) (x0 : Addr) : entryFrame m #[(.ref x0)] 5 = mkF m 0 #[.val (.ref x0), .unset, .unset, .unset, .unset] [] := by first | (simp [entryFrame, mkF, argsToLocals, Value.category]; done) | rfl
def Qrof_0 (Z : State) (va : Addr) (kva : ClassId) (e_1 : Addr) (e_2 : Addr) (t_1 : Addr) (tv_1 : Addr) (tk_1 : ClassId) (t_2 : Addr) (tv_2 : Addr) (tk_2 : ClassId) (a1 : Addr) (ax : Addr) (ka : ClassId) (zc : Int32) (h0 : Heap) (n0 : Nat) (v : Option Value) (h : Heap) (L : List Loc) : Prop := (v = some .null) ∧ (Fr n0 L) ∧ (Keep h0 h [])
set_option maxRecDepth 65536 in
set_option maxHeartbeats 40000000 in
theorem rof_0 (l : Launch) (Z : State) (a0 : Array Value) (hw : ∀ d ∈ tables_1, d.before a0 Z = true) (ws : List Jvm.Cond) (va : Addr) (kva : ClassId) (e_1 : Addr) (e_2 : Addr) (t_1 : Addr) (tv_1 : Addr) (tk_1 : ClassId) (t_2 : Addr) (tv_2 : Addr) (tk_2 : ClassId) (a1 : Addr) (ax : Addr) (ka : ClassId) (zc : Int32) (h0 : Heap) (n0 : Nat) (Z0 : n0 ≤ h0.size) (pr1 : Sta Z h0 oS0 oS3 "Z" (.int zc)) (hzc : ¬ zc = (0 : Int32)) (pr2 : Sta Z h0 oS1 "$VALUES" oS4 (.ref va)) (pr3 : Arv Z h0 va kva (.object oS1) (2 : Int32) [(.ref e_1), (.ref e_2)] .null) (pr4 : Exa Z h0 va oS4) (pr5 : Exa Z h0 e_1 oS1) (pr6 : Exa Z h0 e_2 oS1) (pr7 : Fld Z h0 e_1 oS1 "m_sText" oS2 (.ref t_1)) (pr8 : Exa Z h0 t_1 oS0) (pr9 : Fld Z h0 t_1 oS0 "value" "[B" (.ref tv_1)) (pr10 : Fld Z h0 t_1 oS0 "coder" "B" (.int (0 : Int32))) (pr11 : Arv Z h0 tv_1 tk_1 .byte (3 : Int32) [(.int (49 : Int32)), (.int (46 : Int32)), (.int (48 : Int32))] (.int (0 : Int32))) (pr12 : Fld Z h0 e_2 oS1 "m_sText" oS2 (.ref t_2)) (pr13 : Exa Z h0 t_2 oS0) (pr14 : Fld Z h0 t_2 oS0 "value" "[B" (.ref tv_2)) (pr15 : Fld Z h0 t_2 oS0 "coder" "B" (.int (0 : Int32))) (pr16 : Arv Z h0 tv_2 tk_2 .byte (3 : Int32) [(.int (50 : Int32)), (.int (46 : Int32)), (.int (48 : Int32))] (.int (0 : Int32))) (pr17 : Exa Z h0 a1 oS0) (pr18 : Fld Z h0 a1 oS0 "value" "[B" (.ref ax)) (pr19 : Fld Z h0 a1 oS0 "coder" "B" (.int (0 : Int32))) (pr20 : Arv Z h0 ax ka .byte (0 : Int32) [] (.int (0 : Int32))) (pr21 : @Ne Nat t_1 a1) (pr22 : @Ne Nat t_2 a1) :
    MetFree l oM1 (head1 (Jvm.Cond.code oM1 prog_60_method_5_code 5 (some (.object oS1)) :: ws) ({ frames := 2, cells := 1, slots := 2, locals := 28 } : Room)) (fun a U => a = #[(.ref a1)] ∧ Z.Warmed39 U.vm ∧ U.heap = h0) (fun _ _ _ _ _ => True) (fun _ U o U' => ∃ v L, o = .returned v ∧ Qrof_0 Z va kva e_1 e_2 t_1 tv_1 tk_1 t_2 tv_2 tk_2 a1 ax ka zc h0 n0 v U'.heap L ∧ FrameEnd U o U' L ({ frames := 2, cells := 1, slots := 2, locals := 28 } : Room).cells ({ frames := 2, cells := 1, slots := 2, locals := 28 } : Room).slots) := by
  refine MetFree.of_bodySF (plainFor_of_name pn_9) hisR ?_
  intro p e s m args below meth c s₁ Bd hml0 hP0 hK
  obtain ⟨rfl, hZ, hh⟩ := hP0
  have hx := Bd.exec
  have hby := Bd.bytes
  have hml : c.maxLocals = 5 := hml0
  have hown : s.vm.findClass oS1 = some m.cls := findClass_of_methodNamed Bd.named
  have hnm := (name_of_methodNamed Bd.named Bd.method).1
  have X0 : Stand p l e ({ frames := 2, cells := 1, slots := 2, locals := 28 } : Room) s m #[(.ref a1)] below meth c s₁ [] 0 0 := Stand.of_body Bd
  have e0 : s₁.heap = h0 := by rw [← hh, Bd.state]; rfl
  have N0 := Fr.nil n0
  suffices own_H : ∀ (P : State → Outcome → Prop), (∀ U o, U.status = .running → Ended U below o → (∃ v L, o = .returned v ∧ Qrof_0 Z va kva e_1 e_2 t_1 tv_1 tk_1 t_2 tv_2 tk_2 a1 ax ka zc h0 n0 v U.heap L ∧ FrameEnd s o U L ({ frames := 2, cells := 1, slots := 2, locals := 28 } : Room).cells ({ frames := 2, cells := 1, slots := 2, locals := 28 } : Room).slots) → P U o) → own_Go p.tables e below P (s₁.setTop (mkF m 0 #[oR a1, .unset, .unset, .unset, .unset] [])) from own_go (fun _ k => castTop (ef_rof_0 m a1) k) (own_H _ (fun U o h1 h2 h3 => ⟨h1, h2, h3⟩))
  intro P hP
  have lt_va : @LT.lt Nat _ va h0.size := pr3.lt
  have lt_e_1 : @LT.lt Nat _ e_1 h0.size := pr5.lt
  have lt_e_2 : @LT.lt Nat _ e_2 h0.size := pr6.lt
  have lt_t_1 : @LT.lt Nat _ t_1 h0.size := pr8.lt
  have lt_tv_1 : @LT.lt Nat _ tv_1 h0.size := pr11.lt
  have lt_t_2 : @LT.lt Nat _ t_2 h0.size := pr13.lt
  have lt_tv_2 : @LT.lt Nat _ tv_2 h0.size := pr16.lt
  have lt_a1 : @LT.lt Nat _ a1 h0.size := pr17.lt
  have lt_ax : @LT.lt Nat _ ax h0.size := pr20.lt
  obtain ⟨_, _, ⟨T1, LC1, kC1, nC1⟩, -, X1, ⟨Lc1, hQ1, lq1, yq1, zq1⟩, st1⟩ := Jvm.LawKit.callS X0 hx (y := oM9) hown (mvT hZ (own_hw hw 41)) (mvT hZ (own_hw hw 42)) (mvT hZ (own_hw hw 39)) (mvT hZ (own_hw hw 43)) (by decide) (backOf (W := 0) (rm10 l Z a0 hw [] va kva e_1 e_2 h0 n0 (by omega) pr2 pr3 pr4) hZ (own_hw hw 43) (own_hw hw 39) (by decide) (by decide)) (g := (mkF m 0 #[oR a1, .unset, .unset, .unset, .unset] [])) rfl (by rw [hml]; rfl) (argsL := []) (rest := []) (lenOf pd_7 rfl) rfl (by show 2 * 0 + _ ≤ _; exact Nat.le_of_eq rfl) (hb hby d9_0) (fun _ _ => ⟨rfl, e0, (by decide : 0 + 1 ≤ _), (by decide : 0 + 2 ≤ _)⟩)
  dsimp only [Pt.U, Pt.locs, Pt.cells, Pt.slots] at X1 lq1 yq1 zq1 st1 hQ1
  subst lq1 yq1 zq1
  obtain ⟨h1, e1⟩ : ∃ z, T1.heap = z := ⟨_, rfl⟩
  rw [e1] at hQ1
  obtain ⟨r_1, rfl, Nq1, K1, g1_0, g1_1⟩ := hQ1
  have sz1 : h0.size ≤ h1.size := K1.1
  have N1 := Fr.app N0 Nq1
  have lt1_1 : @LT.lt Nat _ r_1 h1.size := g1_0.lt
  refine own_go (st' := T1.setTop (mkF m 3 #[oR a1, .unset, .unset, .unset, .unset] [(.ref r_1)])) (fun t k => st1 t k) ?_
  refine own_go (st' := T1.setTop (mkF m 4 #[oR a1, oR r_1, .unset, .unset, .unset] [])) (fun _ k => XS.astoreN X1.here hx rfl (hb hby d9_3) rfl rfl (l' := #[oR a1, oR r_1, .unset, .unset, .unset]) rfl k) ?_
  refine own_go (st' := T1.setTop (mkF m 5 #[oR a1, oR r_1, .unset, .unset, .unset] [(.ref r_1)])) (fun _ k => XS.aloadN X1.here hx rfl (hb hby d9_4) rfl rfl k) ?_
  obtain ⟨cl2, Ar2, -, S2, M2, -, -⟩ := id g1_0
  refine own_go (st' := T1.setTop (mkF m 6 #[oR a1, oR r_1, .unset, .unset, .unset] [(.int (2 : Int32))])) (fun t k => X1.arraylength hx (by rw [e1]; exact Ar2.1) (State.isArrayOf_alike hZ.alike Ar2.2.1) (g := (mkF m 5 #[oR a1, oR r_1, .unset, .unset, .unset] [(.ref r_1)])) rfl rfl (hb hby d9_5) t (by rw [len_of S2 M2]; exact k)) ?_
  refine own_go (st' := T1.setTop (mkF m 7 #[oR a1, oR r_1, oi 2, .unset, .unset] [])) (fun _ k => XS.istoreN X1.here hx rfl (hb hby d9_6) rfl (l' := #[oR a1, oR r_1, oi 2, .unset, .unset]) rfl k) ?_
  refine own_go (st' := T1.setTop (mkF m 8 #[oR a1, oR r_1, oi 2, .unset, .unset] [(.int (0 : Int32))])) (fun _ k => XS.iconst X1.here hx rfl (hb hby d9_7) k) ?_
  refine own_go (st' := T1.setTop (mkF m 9 #[oR a1, oR r_1, oi 2, oi 0, .unset] [])) (fun _ k => XS.istoreN X1.here hx rfl (hb hby d9_8) rfl (l' := #[oR a1, oR r_1, oi 2, oi 0, .unset]) rfl k) ?_
  refine own_go (st' := T1.setTop (mkF m 10 #[oR a1, oR r_1, oi 2, oi 0, .unset] [(.int (0 : Int32))])) (fun _ k => XS.iloadN X1.here hx rfl (hb hby d9_9) rfl k) ?_
  refine own_go (st' := T1.setTop (mkF m 11 #[oR a1, oR r_1, oi 2, oi 0, .unset] [(.int (2 : Int32)), (.int (0 : Int32))])) (fun _ k => XS.iloadN X1.here hx rfl (hb hby d9_10) rfl k) ?_
  have hc3 : (0 : Int32) < (2 : Int32) := by decide
  refine own_go (st' := T1.setTop (mkF m 14 #[oR a1, oR r_1, oi 2, oi 0, .unset] [])) (fun _ k => XS.icmpNo X1.here hx rfl (hb hby d9_11) rfl (tlt hc3).2.1 k) ?_
  refine own_go (st' := T1.setTop (mkF m 15 #[oR a1, oR r_1, oi 2, oi 0, .unset] [(.ref r_1)])) (fun _ k => XS.aloadN X1.here hx rfl (hb hby d9_14) rfl rfl k) ?_
  refine own_go (st' := T1.setTop (mkF m 16 #[oR a1, oR r_1, oi 2, oi 0, .unset] [(.int (0 : Int32)), (.ref r_1)])) (fun _ k => XS.iloadN X1.here hx rfl (hb hby d9_15) rfl k) ?_
  obtain ⟨cl4, Ar4, -, S4, M4, H4, -⟩ := id g1_0
  have hin4 : ¬ ((0 : Int32) < 0 ∨ cl4.slots.size ≤ ((0 : Int32)).toNatClampNeg) := (inb_of S4 ⟨by decide, by decide⟩)
  have hat4 : cl4.slots[((0 : Int32)).toNatClampNeg]? = some (.ref e_1) := (H4.at hin4 rfl)
  refine own_go (st' := T1.setTop (mkF m 17 #[oR a1, oR r_1, oi 2, oi 0, .unset] [(.ref e_1)])) (X1.aaload hx (j := (0 : Int32)) (v := (.ref e_1)) (by rw [e1]; exact Ar4.1) (State.isArrayOf_alike hZ.alike Ar4.2.1) rfl Ar4.2.2 hin4 hat4 (g := (mkF m 16 #[oR a1, oR r_1, oi 2, oi 0, .unset] [(.int (0 : Int32)), (.ref r_1)])) rfl rfl (hb hby d9_16)) ?_
  refine own_go (st' := T1.setTop (mkF m 19 #[oR a1, oR r_1, oi 2, oi 0, oR e_1] [])) (fun _ k => XS.astore X1.here hx rfl (hb hby d9_17) rfl rfl (l' := #[oR a1, oR r_1, oi 2, oi 0, oR e_1]) rfl k) ?_
  refine own_go (st' := T1.setTop (mkF m 21 #[oR a1, oR r_1, oi 2, oi 0, oR e_1] [(.ref e_1)])) (fun _ k => XS.aload X1.here hx rfl (hb hby d9_19) rfl rfl k) ?_
  have c5 : Fld Z h1 e_1 oS1 "m_sText" oS2 (.ref t_1) := (pr7.keep K1 nin0)
  obtain ⟨T6, X6, e6, st6⟩ := getF X1 hx hZ hown (host := "") (Or.inl (own_hw hw 58)) Via.refl e1 c5 (g := (mkF m 21 #[oR a1, oR r_1, oi 2, oi 0, oR e_1] [(.ref e_1)])) rfl rfl (hb hby d9_21)
  refine own_go (st' := T6.setTop (mkF m 24 #[oR a1, oR r_1, oi 2, oi 0, oR e_1] [(.ref t_1)])) (st6) ?_
  refine own_go (st' := T6.setTop (mkF m 25 #[oR a1, oR r_1, oi 2, oi 0, oR e_1] [(.ref a1), (.ref t_1)])) (fun _ k => XS.aloadN X6.here hx rfl (hb hby d9_24) rfl rfl k) ?_
  have c8 : Sta Z h1 oS0 oS3 "Z" (.int zc) := (own_sta_keep pr1 K1 all0)
  have c9 : Exa Z h1 t_1 oS0 := (pr8.keep K1)
  have c10 : Fld Z h1 t_1 oS0 "value" "[B" (.ref tv_1) := (pr9.keep K1 nin0)
  have c11 : Fld Z h1 t_1 oS0 "coder" "B" (.int (0 : Int32)) := (pr10.keep K1 nin0)
  have c12 : Exa Z h1 a1 oS0 := (pr17.keep K1)
  have c13 : Fld Z h1 a1 oS0 "value" "[B" (.ref ax) := (pr18.keep K1 nin0)
  have c14 : Fld Z h1 a1 oS0 "coder" "B" (.int (0 : Int32)) := (pr19.keep K1 nin0)
  have c15 : Arv Z h1 tv_1 tk_1 .byte (3 : Int32) [(.int (49 : Int32)), (.int (46 : Int32)), (.int (48 : Int32))] (.int (0 : Int32)) := (pr11.keep K1 nin0)
  have c16 : Arv Z h1 ax ka .byte (0 : Int32) [] (.int (0 : Int32)) := (pr20.keep K1 nin0)
  obtain ⟨cq7, kq7, q7a, q7b, q7c⟩ := isOf hZ e6 c9
  obtain ⟨_, _, ⟨T7, LC7, kC7, nC7⟩, -, X7, ⟨Lc7, hQ7, lq7, yq7, zq7⟩, st7⟩ := X6.virtualBack hx (y := oM0) (z := oM0) hown (mvT hZ (own_hw hw 60)) (mvT hZ (own_hw hw 61)) (notFace_of_selects (args := #[]) (mvT hZ (own_hw hw 63))) (mvT hZ (own_hw hw 63)) (mvT hZ (own_hw hw 62)) (by decide) (backOf (W := 0) (rse_30 l Z a0 hw [] t_1 a1 zc tv_1 tk_1 ax ka (49 : Int32) (46 : Int32) (48 : Int32) h1 n0 (by omega) c8 (by assumption) (own_ne (by omega)) c9 c10 c11 c12 c13 c14 c15 c16) hZ (own_hw hw 64) (own_hw hw 9) (by decide) (by decide)) q7a q7c (g := (mkF m 25 #[oR a1, oR r_1, oi 2, oi 0, oR e_1] [(.ref a1), (.ref t_1)])) rfl (by rw [hml]; rfl) (Steps.refl _) (argsL := [(.ref a1)]) (rest := []) (lenOf pd_8 rfl) rfl (by show 2 * 0 + _ ≤ _; exact Nat.le_of_eq rfl) (hb hby d9_25) (fun _ _ => ⟨rfl, e6, (by decide : 1 + 0 ≤ _), (by decide : 2 + 0 ≤ _)⟩)
  dsimp only [Pt.U, Pt.locs, Pt.cells, Pt.slots] at X7 lq7 yq7 zq7 st7 hQ7
  subst lq7 yq7 zq7
  obtain ⟨rfl, Nq7, eq7⟩ := hQ7
  have N7 := Fr.app N1 Nq7
  refine own_go (st' := T7.setTop (mkF m 28 #[oR a1, oR r_1, oi 2, oi 0, oR e_1] [(.int (0 : Int32))])) (fun _ k => st7.trans k) ?_
  have hc17 : (0 : Int32) = (0 : Int32) := by decide
  refine own_go (st' := T7.setTop (mkF m 34 #[oR a1, oR r_1, oi 2, oi 0, oR e_1] [])) (fun _ k => XS.ifYes X7.here hx rfl (pc0 := 28) (pc' := 34) rfl (hb hby d9_28) rfl ((if0 _ _).trans (teq hc17).1) (by decide) (by decide) k) ?_
  refine own_go (st' := T7.setTop (mkF m 37 #[oR a1, oR r_1, oi 2, oi 1, oR e_1] [])) (fun _ k => XS.iinc X7.here hx rfl (hb hby d9_34) rfl (l' := #[oR a1, oR r_1, oi 2, oi 1, oR e_1]) (by rw [show ((0 : Int32) + Int32.ofInt 1) = (1 : Int32) by decide]; rfl) k) ?_
  refine own_go (st' := T7.setTop (mkF m 9 #[oR a1, oR r_1, oi 2, oi 1, oR e_1] [])) (fun _ k => XS.goto X7.here hx rfl (pc0 := 37) (pc' := 9) rfl (hb hby d9_37) (by decide) (by decide) k) ?_
  refine own_go (st' := T7.setTop (mkF m 10 #[oR a1, oR r_1, oi 2, oi 1, oR e_1] [(.int (1 : Int32))])) (fun _ k => XS.iloadN X7.here hx rfl (hb hby d9_9) rfl k) ?_
  refine own_go (st' := T7.setTop (mkF m 11 #[oR a1, oR r_1, oi 2, oi 1, oR e_1] [(.int (2 : Int32)), (.int (1 : Int32))])) (fun _ k => XS.iloadN X7.here hx rfl (hb hby d9_10) rfl k) ?_
  have hc18 : (1 : Int32) < (2 : Int32) := by decide
  refine own_go (st' := T7.setTop (mkF m 14 #[oR a1, oR r_1, oi 2, oi 1, oR e_1] [])) (fun _ k => XS.icmpNo X7.here hx rfl (hb hby d9_11) rfl (tlt hc18).2.1 k) ?_
  refine own_go (st' := T7.setTop (mkF m 15 #[oR a1, oR r_1, oi 2, oi 1, oR e_1] [(.ref r_1)])) (fun _ k => XS.aloadN X7.here hx rfl (hb hby d9_14) rfl rfl k) ?_
  refine own_go (st' := T7.setTop (mkF m 16 #[oR a1, oR r_1, oi 2, oi 1, oR e_1] [(.int (1 : Int32)), (.ref r_1)])) (fun _ k => XS.iloadN X7.here hx rfl (hb hby d9_15) rfl k) ?_
  obtain ⟨cl19, Ar19, -, S19, M19, H19, -⟩ := id g1_0
  have hin19 : ¬ ((1 : Int32) < 0 ∨ cl19.slots.size ≤ ((1 : Int32)).toNatClampNeg) := (inb_of S19 ⟨by decide, by decide⟩)
  have hat19 : cl19.slots[((1 : Int32)).toNatClampNeg]? = some (.ref e_2) := (H19.at hin19 rfl)
  refine own_go (st' := T7.setTop (mkF m 17 #[oR a1, oR r_1, oi 2, oi 1, oR e_1] [(.ref e_2)])) (X7.aaload hx (j := (1 : Int32)) (v := (.ref e_2)) (by rw [eq7]; exact Ar19.1) (State.isArrayOf_alike hZ.alike Ar19.2.1) rfl Ar19.2.2 hin19 hat19 (g := (mkF m 16 #[oR a1, oR r_1, oi 2, oi 1, oR e_1] [(.int (1 : Int32)), (.ref r_1)])) rfl rfl (hb hby d9_16)) ?_
  refine own_go (st' := T7.setTop (mkF m 19 #[oR a1, oR r_1, oi 2, oi 1, oR e_2] [])) (fun _ k => XS.astore X7.here hx rfl (hb hby d9_17) rfl rfl (l' := #[oR a1, oR r_1, oi 2, oi 1, oR e_2]) rfl k) ?_
  refine own_go (st' := T7.setTop (mkF m 21 #[oR a1, oR r_1, oi 2, oi 1, oR e_2] [(.ref e_2)])) (fun _ k => XS.aload X7.here hx rfl (hb hby d9_19) rfl rfl k) ?_
  have c20 : Fld Z h1 e_2 oS1 "m_sText" oS2 (.ref t_2) := (pr12.keep K1 nin0)
  obtain ⟨T21, X21, e21, st21⟩ := getF X7 hx hZ hown (host := "") (Or.inl (own_hw hw 58)) Via.refl eq7 c20 (g := (mkF m 21 #[oR a1, oR r_1, oi 2, oi 1, oR e_2] [(.ref e_2)])) rfl rfl (hb hby d9_21)
  refine own_go (st' := T21.setTop (mkF m 24 #[oR a1, oR r_1, oi 2, oi 1, oR e_2] [(.ref t_2)])) (st21) ?_
  refine own_go (st' := T21.setTop (mkF m 25 #[oR a1, oR r_1, oi 2, oi 1, oR e_2] [(.ref a1), (.ref t_2)])) (fun _ k => XS.aloadN X21.here hx rfl (hb hby d9_24) rfl rfl k) ?_
  have c23 : Exa Z h1 t_2 oS0 := (pr13.keep K1)
  have c24 : Fld Z h1 t_2 oS0 "value" "[B" (.ref tv_2) := (pr14.keep K1 nin0)
  have c25 : Fld Z h1 t_2 oS0 "coder" "B" (.int (0 : Int32)) := (pr15.keep K1 nin0)
  have c26 : Arv Z h1 tv_2 tk_2 .byte (3 : Int32) [(.int (50 : Int32)), (.int (46 : Int32)), (.int (48 : Int32))] (.int (0 : Int32)) := (pr16.keep K1 nin0)
  obtain ⟨cq22, kq22, q22a, q22b, q22c⟩ := isOf hZ e21 c23
  obtain ⟨_, _, ⟨T22, LC22, kC22, nC22⟩, -, X22, ⟨Lc22, hQ22, lq22, yq22, zq22⟩, st22⟩ := X21.virtualBack hx (y := oM0) (z := oM0) hown (mvT hZ (own_hw hw 60)) (mvT hZ (own_hw hw 61)) (notFace_of_selects (args := #[]) (mvT hZ (own_hw hw 63))) (mvT hZ (own_hw hw 63)) (mvT hZ (own_hw hw 62)) (by decide) (backOf (W := 0) (rse_30 l Z a0 hw [] t_2 a1 zc tv_2 tk_2 ax ka (50 : Int32) (46 : Int32) (48 : Int32) h1 n0 (by omega) c8 (by assumption) (own_ne (by omega)) c23 c24 c25 c12 c13 c14 c26 c16) hZ (own_hw hw 64) (own_hw hw 9) (by decide) (by decide)) q22a q22c (g := (mkF m 25 #[oR a1, oR r_1, oi 2, oi 1, oR e_2] [(.ref a1), (.ref t_2)])) rfl (by rw [hml]; rfl) (Steps.refl _) (argsL := [(.ref a1)]) (rest := []) (lenOf pd_8 rfl) rfl (by show 2 * 0 + _ ≤ _; exact Nat.le_of_eq rfl) (hb hby d9_25) (fun _ _ => ⟨rfl, e21, (by decide : 1 + 0 ≤ _), (by decide : 2 + 0 ≤ _)⟩)
  dsimp only [Pt.U, Pt.locs, Pt.cells, Pt.slots] at X22 lq22 yq22 zq22 st22 hQ22
  subst lq22 yq22 zq22
  obtain ⟨rfl, Nq22, eq22⟩ := hQ22
  have N22 := Fr.app N7 Nq22
  refine own_go (st' := T22.setTop (mkF m 28 #[oR a1, oR r_1, oi 2, oi 1, oR e_2] [(.int (0 : Int32))])) (fun _ k => st22.trans k) ?_
  have hc27 : (0 : Int32) = (0 : Int32) := by decide
  refine own_go (st' := T22.setTop (mkF m 34 #[oR a1, oR r_1, oi 2, oi 1, oR e_2] [])) (fun _ k => XS.ifYes X22.here hx rfl (pc0 := 28) (pc' := 34) rfl (hb hby d9_28) rfl ((if0 _ _).trans (teq hc27).1) (by decide) (by decide) k) ?_
  refine own_go (st' := T22.setTop (mkF m 37 #[oR a1, oR r_1, oi 2, oi 2, oR e_2] [])) (fun _ k => XS.iinc X22.here hx rfl (hb hby d9_34) rfl (l' := #[oR a1, oR r_1, oi 2, oi 2, oR e_2]) (by rw [show ((1 : Int32) + Int32.ofInt 1) = (2 : Int32) by decide]; rfl) k) ?_
  refine own_go (st' := T22.setTop (mkF m 9 #[oR a1, oR r_1, oi 2, oi 2, oR e_2] [])) (fun _ k => XS.goto X22.here hx rfl (pc0 := 37) (pc' := 9) rfl (hb hby d9_37) (by decide) (by decide) k) ?_
  refine own_go (st' := T22.setTop (mkF m 10 #[oR a1, oR r_1, oi 2, oi 2, oR e_2] [(.int (2 : Int32))])) (fun _ k => XS.iloadN X22.here hx rfl (hb hby d9_9) rfl k) ?_
  refine own_go (st' := T22.setTop (mkF m 11 #[oR a1, oR r_1, oi 2, oi 2, oR e_2] [(.int (2 : Int32)), (.int (2 : Int32))])) (fun _ k => XS.iloadN X22.here hx rfl (hb hby d9_10) rfl k) ?_
  have hc28 : ¬ ((2 : Int32) < (2 : Int32)) := by decide
  refine own_go (st' := T22.setTop (mkF m 40 #[oR a1, oR r_1, oi 2, oi 2, oR e_2] [])) (fun _ k => XS.icmpYes X22.here hx rfl (pc0 := 11) (pc' := 40) rfl (hb hby d9_11) rfl (flt hc28).2.1 (by decide) (by decide) k) ?_
  refine own_go (st' := T22.setTop (mkF m 41 #[oR a1, oR r_1, oi 2, oi 2, oR e_2] [.null])) (fun _ k => XS.aconstNull X22.here hx rfl (hb hby d9_40) k) ?_
  obtain ⟨fs, hr, hrun, hended, hW, hsame⟩ := X22.leave (v := some .null) (fun h => by rw [Bd.returns] at h; cases h)
  refine ⟨_, _, ?_, hP _ _ hrun hended ⟨_, _, rfl, ?_, ⟨_, rfl⟩, hW, hsame.mono (by decide) (by decide)⟩⟩
  · exact retOut X22 hx Bd.returns rfl (Or.inr (Or.inr (Or.inr (Or.inr ⟨rfl, rfl, rfl⟩)))) (hb hby d9_41) hr
  · show Qrof_0 Z va kva e_1 e_2 t_1 tv_1 tk_1 t_2 tv_2 tk_2 a1 ax ka zc h0 n0 _ T22.heap _
    rw [eq22]
    exact ⟨rfl, N22, ((Keep.refl h0 []).trans K1 all0)⟩
theorem ef_rof_1 (m : MethodId) (x0 : Addr) : entryFrame m #[(.ref x0)] 5 = mkF m 0 #[.val (.ref x0), .unset, .unset, .unset, .unset] [] := by first | (simp [entryFrame, mkF, argsToLocals, Value.category]; done) | rfl
def Qrof_1 (Z : State) (va : Addr) (kva : ClassId) (e_1 : Addr) (e_2 : Addr) (t_1 : Addr) (tv_1 : Addr) (tk_1 : ClassId) (t_2 : Addr) (tv_2 : Addr) (tk_2 : ClassId) (a1 : Addr) (ax : Addr) (ka : ClassId) (w0 : Int32) (zc : Int32) (h0 : Heap) (n0 : Nat) (v : Option Value) (h : Heap) (L : List Loc) : Prop := (v = some .null) ∧ (Fr n0 L) ∧ (Keep h0 h [])
set_option maxRecDepth 65536 in
set_option maxHeartbeats 40000000 in
theorem rof_1 (l : Launch) (Z : State) (a0 : Array Value) (hw : ∀ d ∈ tables_1, d.before a0 Z = true) (ws : List Jvm.Cond) (va : Addr) (kva : ClassId) (e_1 : Addr) (e_2 : Addr) (t_1 : Addr) (tv_1 : Addr) (tk_1 : ClassId) (t_2 : Addr) (tv_2 : Addr) (tk_2 : ClassId) (a1 : Addr) (ax : Addr) (ka : ClassId) (w0 : Int32) (zc : Int32) (h0 : Heap) (n0 : Nat) (Z0 : n0 ≤ h0.size) (pr1 : Sta Z h0 oS0 oS3 "Z" (.int zc)) (hzc : ¬ zc = (0 : Int32)) (pr2 : Sta Z h0 oS1 "$VALUES" oS4 (.ref va)) (pr3 : Arv Z h0 va kva (.object oS1) (2 : Int32) [(.ref e_1), (.ref e_2)] .null) (pr4 : Exa Z h0 va oS4) (pr5 : Exa Z h0 e_1 oS1) (pr6 : Exa Z h0 e_2 oS1) (pr7 : Fld Z h0 e_1 oS1 "m_sText" oS2 (.ref t_1)) (pr8 : Exa Z h0 t_1 oS0) (pr9 : Fld Z h0 t_1 oS0 "value" "[B" (.ref tv_1)) (pr10 : Fld Z h0 t_1 oS0 "coder" "B" (.int (0 : Int32))) (pr11 : Arv Z h0 tv_1 tk_1 .byte (3 : Int32) [(.int (49 : Int32)), (.int (46 : Int32)), (.int (48 : Int32))] (.int (0 : Int32))) (pr12 : Fld Z h0 e_2 oS1 "m_sText" oS2 (.ref t_2)) (pr13 : Exa Z h0 t_2 oS0) (pr14 : Fld Z h0 t_2 oS0 "value" "[B" (.ref tv_2)) (pr15 : Fld Z h0 t_2 oS0 "coder" "B" (.int (0 : Int32))) (pr16 : Arv Z h0 tv_2 tk_2 .byte (3 : Int32) [(.int (50 : Int32)), (.int (46 : Int32)), (.int (48 : Int32))] (.int (0 : Int32))) (pr17 : Exa Z h0 a1 oS0) (pr18 : Fld Z h0 a1 oS0 "value" "[B" (.ref ax)) (pr19 : Fld Z h0 a1 oS0 "coder" "B" (.int (0 : Int32))) (pr20 : Arv Z h0 ax ka .byte (1 : Int32) [(.int w0)] (.int (0 : Int32))) (pr21 : @Ne Nat t_1 a1) (pr22 : @Ne Nat t_2 a1) :
    MetFree l oM1 (head1 (Jvm.Cond.code oM1 prog_60_method_5_code 5 (some (.object oS1)) :: ws) ({ frames := 2, cells := 1, slots := 2, locals := 28 } : Room)) (fun a U => a = #[(.ref a1)] ∧ Z.Warmed39 U.vm ∧ U.heap = h0) (fun _ _ _ _ _ => True) (fun _ U o U' => ∃ v L, o = .returned v ∧ Qrof_1 Z va kva e_1 e_2 t_1 tv_1 tk_1 t_2 tv_2 tk_2 a1 ax ka w0 zc h0 n0 v U'.heap L ∧ FrameEnd U o U' L ({ frames := 2, cells := 1, slots := 2, locals := 28 } : Room).cells ({ frames := 2, cells := 1, slots := 2, locals := 28 } : Room).slots) := by
  refine MetFree.of_bodySF (plainFor_of_name pn_9) hisR ?_
  intro p e s m args below meth c s₁ Bd hml0 hP0 hK
  obtain ⟨rfl, hZ, hh⟩ := hP0
  have hx := Bd.exec
  have hby := Bd.bytes
  have hml : c.maxLocals = 5 := hml0
  have hown : s.vm.findClass oS1 = some m.cls := findClass_of_methodNamed Bd.named
  have hnm := (name_of_methodNamed Bd.named Bd.method).1
  have X0 : Stand p l e ({ frames := 2, cells := 1, slots := 2, locals := 28 } : Room) s m #[(.ref a1)] below meth c s₁ [] 0 0 := Stand.of_body Bd
  have e0 : s₁.heap = h0 := by rw [← hh, Bd.state]; rfl
  have N0 := Fr.nil n0
  suffices own_H : ∀ (P : State → Outcome → Prop), (∀ U o, U.status = .running → Ended U below o → (∃ v L, o = .returned v ∧ Qrof_1 Z va kva e_1 e_2 t_1 tv_1 tk_1 t_2 tv_2 tk_2 a1 ax ka w0 zc h0 n0 v U.heap L ∧ FrameEnd s o U L ({ frames := 2, cells := 1, slots := 2, locals := 28 } : Room).cells ({ frames := 2, cells := 1, slots := 2, locals := 28 } : Room).slots) → P U o) → own_Go p.tables e below P (s₁.setTop (mkF m 0 #[oR a1, .unset, .unset, .unset, .unset] [])) from own_go (fun _ k => castTop (ef_rof_1 m a1) k) (own_H _ (fun U o h1 h2 h3 => ⟨h1, h2, h3⟩))
  intro P hP
  have lt_va : @LT.lt Nat _ va h0.size := pr3.lt
  have lt_e_1 : @LT.lt Nat _ e_1 h0.size := pr5.lt
  have lt_e_2 : @LT.lt Nat _ e_2 h0.size := pr6.lt
  have lt_t_1 : @LT.lt Nat _ t_1 h0.size := pr8.lt
  have lt_tv_1 : @LT.lt Nat _ tv_1 h0.size := pr11.lt
  have lt_t_2 : @LT.lt Nat _ t_2 h0.size := pr13.lt
  have lt_tv_2 : @LT.lt Nat _ tv_2 h0.size := pr16.lt
  have lt_a1 : @LT.lt Nat _ a1 h0.size := pr17.lt
  have lt_ax : @LT.lt Nat _ ax h0.size := pr20.lt
  obtain ⟨_, _, ⟨T1, LC1, kC1, nC1⟩, -, X1, ⟨Lc1, hQ1, lq1, yq1, zq1⟩, st1⟩ := Jvm.LawKit.callS X0 hx (y := oM9) hown (mvT hZ (own_hw hw 41)) (mvT hZ (own_hw hw 42)) (mvT hZ (own_hw hw 39)) (mvT hZ (own_hw hw 43)) (by decide) (backOf (W := 0) (rm10 l Z a0 hw [] va kva e_1 e_2 h0 n0 (by omega) pr2 pr3 pr4) hZ (own_hw hw 43) (own_hw hw 39) (by decide) (by decide)) (g := (mkF m 0 #[oR a1, .unset, .unset, .unset, .unset] [])) rfl (by rw [hml]; rfl) (argsL := []) (rest := []) (lenOf pd_7 rfl) rfl (by show 2 * 0 + _ ≤ _; exact Nat.le_of_eq rfl) (hb hby d9_0) (fun _ _ => ⟨rfl, e0, (by decide : 0 + 1 ≤ _), (by decide : 0 + 2 ≤ _)⟩)
  dsimp only [Pt.U, Pt.locs, Pt.cells, Pt.slots] at X1 lq1 yq1 zq1 st1 hQ1
  subst lq1 yq1 zq1
  obtain ⟨h1, e1⟩ : ∃ z, T1.heap = z := ⟨_, rfl⟩
  rw [e1] at hQ1
  obtain ⟨r_1, rfl, Nq1, K1, g1_0, g1_1⟩ := hQ1
  have sz1 : h0.size ≤ h1.size := K1.1
  have N1 := Fr.app N0 Nq1
  have lt1_1 : @LT.lt Nat _ r_1 h1.size := g1_0.lt
  refine own_go (st' := T1.setTop (mkF m 3 #[oR a1, .unset, .unset, .unset, .unset] [(.ref r_1)])) (fun t k => st1 t k) ?_
  refine own_go (st' := T1.setTop (mkF m 4 #[oR a1, oR r_1, .unset, .unset, .unset] [])) (fun _ k => XS.astoreN X1.here hx rfl (hb hby d9_3) rfl rfl (l' := #[oR a1, oR r_1, .unset, .unset, .unset]) rfl k) ?_
  refine own_go (st' := T1.setTop (mkF m 5 #[oR a1, oR r_1, .unset, .unset, .unset] [(.ref r_1)])) (fun _ k => XS.aloadN X1.here hx rfl (hb hby d9_4) rfl rfl k) ?_
  obtain ⟨cl2, Ar2, -, S2, M2, -, -⟩ := id g1_0
  refine own_go (st' := T1.setTop (mkF m 6 #[oR a1, oR r_1, .unset, .unset, .unset] [(.int (2 : Int32))])) (fun t k => X1.arraylength hx (by rw [e1]; exact Ar2.1) (State.isArrayOf_alike hZ.alike Ar2.2.1) (g := (mkF m 5 #[oR a1, oR r_1, .unset, .unset, .unset] [(.ref r_1)])) rfl rfl (hb hby d9_5) t (by rw [len_of S2 M2]; exact k)) ?_
  refine own_go (st' := T1.setTop (mkF m 7 #[oR a1, oR r_1, oi 2, .unset, .unset] [])) (fun _ k => XS.istoreN X1.here hx rfl (hb hby d9_6) rfl (l' := #[oR a1, oR r_1, oi 2, .unset, .unset]) rfl k) ?_
  refine own_go (st' := T1.setTop (mkF m 8 #[oR a1, oR r_1, oi 2, .unset, .unset] [(.int (0 : Int32))])) (fun _ k => XS.iconst X1.here hx rfl (hb hby d9_7) k) ?_
  refine own_go (st' := T1.setTop (mkF m 9 #[oR a1, oR r_1, oi 2, oi 0, .unset] [])) (fun _ k => XS.istoreN X1.here hx rfl (hb hby d9_8) rfl (l' := #[oR a1, oR r_1, oi 2, oi 0, .unset]) rfl k) ?_
  refine own_go (st' := T1.setTop (mkF m 10 #[oR a1, oR r_1, oi 2, oi 0, .unset] [(.int (0 : Int32))])) (fun _ k => XS.iloadN X1.here hx rfl (hb hby d9_9) rfl k) ?_
  refine own_go (st' := T1.setTop (mkF m 11 #[oR a1, oR r_1, oi 2, oi 0, .unset] [(.int (2 : Int32)), (.int (0 : Int32))])) (fun _ k => XS.iloadN X1.here hx rfl (hb hby d9_10) rfl k) ?_
  have hc3 : (0 : Int32) < (2 : Int32) := by decide
  refine own_go (st' := T1.setTop (mkF m 14 #[oR a1, oR r_1, oi 2, oi 0, .unset] [])) (fun _ k => XS.icmpNo X1.here hx rfl (hb hby d9_11) rfl (tlt hc3).2.1 k) ?_
  refine own_go (st' := T1.setTop (mkF m 15 #[oR a1, oR r_1, oi 2, oi 0, .unset] [(.ref r_1)])) (fun _ k => XS.aloadN X1.here hx rfl (hb hby d9_14) rfl rfl k) ?_
  refine own_go (st' := T1.setTop (mkF m 16 #[oR a1, oR r_1, oi 2, oi 0, .unset] [(.int (0 : Int32)), (.ref r_1)])) (fun _ k => XS.iloadN X1.here hx rfl (hb hby d9_15) rfl k) ?_
  obtain ⟨cl4, Ar4, -, S4, M4, H4, -⟩ := id g1_0
  have hin4 : ¬ ((0 : Int32) < 0 ∨ cl4.slots.size ≤ ((0 : Int32)).toNatClampNeg) := (inb_of S4 ⟨by decide, by decide⟩)
  have hat4 : cl4.slots[((0 : Int32)).toNatClampNeg]? = some (.ref e_1) := (H4.at hin4 rfl)
  refine own_go (st' := T1.setTop (mkF m 17 #[oR a1, oR r_1, oi 2, oi 0, .unset] [(.ref e_1)])) (X1.aaload hx (j := (0 : Int32)) (v := (.ref e_1)) (by rw [e1]; exact Ar4.1) (State.isArrayOf_alike hZ.alike Ar4.2.1) rfl Ar4.2.2 hin4 hat4 (g := (mkF m 16 #[oR a1, oR r_1, oi 2, oi 0, .unset] [(.int (0 : Int32)), (.ref r_1)])) rfl rfl (hb hby d9_16)) ?_
  refine own_go (st' := T1.setTop (mkF m 19 #[oR a1, oR r_1, oi 2, oi 0, oR e_1] [])) (fun _ k => XS.astore X1.here hx rfl (hb hby d9_17) rfl rfl (l' := #[oR a1, oR r_1, oi 2, oi 0, oR e_1]) rfl k) ?_
  refine own_go (st' := T1.setTop (mkF m 21 #[oR a1, oR r_1, oi 2, oi 0, oR e_1] [(.ref e_1)])) (fun _ k => XS.aload X1.here hx rfl (hb hby d9_19) rfl rfl k) ?_
  have c5 : Fld Z h1 e_1 oS1 "m_sText" oS2 (.ref t_1) := (pr7.keep K1 nin0)
  obtain ⟨T6, X6, e6, st6⟩ := getF X1 hx hZ hown (host := "") (Or.inl (own_hw hw 58)) Via.refl e1 c5 (g := (mkF m 21 #[oR a1, oR r_1, oi 2, oi 0, oR e_1] [(.ref e_1)])) rfl rfl (hb hby d9_21)
  refine own_go (st' := T6.setTop (mkF m 24 #[oR a1, oR r_1, oi 2, oi 0, oR e_1] [(.ref t_1)])) (st6) ?_
  refine own_go (st' := T6.setTop (mkF m 25 #[oR a1, oR r_1, oi 2, oi 0, oR e_1] [(.ref a1), (.ref t_1)])) (fun _ k => XS.aloadN X6.here hx rfl (hb hby d9_24) rfl rfl k) ?_
  have c8 : Sta Z h1 oS0 oS3 "Z" (.int zc) := (own_sta_keep pr1 K1 all0)
  have c9 : Exa Z h1 t_1 oS0 := (pr8.keep K1)
  have c10 : Fld Z h1 t_1 oS0 "value" "[B" (.ref tv_1) := (pr9.keep K1 nin0)
  have c11 : Fld Z h1 t_1 oS0 "coder" "B" (.int (0 : Int32)) := (pr10.keep K1 nin0)
  have c12 : Exa Z h1 a1 oS0 := (pr17.keep K1)
  have c13 : Fld Z h1 a1 oS0 "value" "[B" (.ref ax) := (pr18.keep K1 nin0)
  have c14 : Fld Z h1 a1 oS0 "coder" "B" (.int (0 : Int32)) := (pr19.keep K1 nin0)
  have c15 : Arv Z h1 tv_1 tk_1 .byte (3 : Int32) [(.int (49 : Int32)), (.int (46 : Int32)), (.int (48 : Int32))] (.int (0 : Int32)) := (pr11.keep K1 nin0)
  have c16 : Arv Z h1 ax ka .byte (1 : Int32) [(.int w0)] (.int (0 : Int32)) := (pr20.keep K1 nin0)
  obtain ⟨cq7, kq7, q7a, q7b, q7c⟩ := isOf hZ e6 c9
  obtain ⟨_, _, ⟨T7, LC7, kC7, nC7⟩, -, X7, ⟨Lc7, hQ7, lq7, yq7, zq7⟩, st7⟩ := X6.virtualBack hx (y := oM0) (z := oM0) hown (mvT hZ (own_hw hw 60)) (mvT hZ (own_hw hw 61)) (notFace_of_selects (args := #[]) (mvT hZ (own_hw hw 63))) (mvT hZ (own_hw hw 63)) (mvT hZ (own_hw hw 62)) (by decide) (backOf (W := 0) (rse_31 l Z a0 hw [] t_1 a1 zc tv_1 tk_1 ax ka (49 : Int32) (46 : Int32) (48 : Int32) w0 h1 n0 (by omega) c8 (by assumption) (own_ne (by omega)) c9 c10 c11 c12 c13 c14 c15 c16) hZ (own_hw hw 64) (own_hw hw 9) (by decide) (by decide)) q7a q7c (g := (mkF m 25 #[oR a1, oR r_1, oi 2, oi 0, oR e_1] [(.ref a1), (.ref t_1)])) rfl (by rw [hml]; rfl) (Steps.refl _) (argsL := [(.ref a1)]) (rest := []) (lenOf pd_8 rfl) rfl (by show 2 * 0 + _ ≤ _; exact Nat.le_of_eq rfl) (hb hby d9_25) (fun _ _ => ⟨rfl, e6, (by decide : 1 + 0 ≤ _), (by decide : 2 + 0 ≤ _)⟩)
  dsimp only [Pt.U, Pt.locs, Pt.cells, Pt.slots] at X7 lq7 yq7 zq7 st7 hQ7
  subst lq7 yq7 zq7
  obtain ⟨rfl, Nq7, eq7⟩ := hQ7
  have N7 := Fr.app N1 Nq7
  refine own_go (st' := T7.setTop (mkF m 28 #[oR a1, oR r_1, oi 2, oi 0, oR e_1] [(.int (0 : Int32))])) (fun _ k => st7.trans k) ?_
  have hc17 : (0 : Int32) = (0 : Int32) := by decide
  refine own_go (st' := T7.setTop (mkF m 34 #[oR a1, oR r_1, oi 2, oi 0, oR e_1] [])) (fun _ k => XS.ifYes X7.here hx rfl (pc0 := 28) (pc' := 34) rfl (hb hby d9_28) rfl ((if0 _ _).trans (teq hc17).1) (by decide) (by decide) k) ?_
  refine own_go (st' := T7.setTop (mkF m 37 #[oR a1, oR r_1, oi 2, oi 1, oR e_1] [])) (fun _ k => XS.iinc X7.here hx rfl (hb hby d9_34) rfl (l' := #[oR a1, oR r_1, oi 2, oi 1, oR e_1]) (by rw [show ((0 : Int32) + Int32.ofInt 1) = (1 : Int32) by decide]; rfl) k) ?_
  refine own_go (st' := T7.setTop (mkF m 9 #[oR a1, oR r_1, oi 2, oi 1, oR e_1] [])) (fun _ k => XS.goto X7.here hx rfl (pc0 := 37) (pc' := 9) rfl (hb hby d9_37) (by decide) (by decide) k) ?_
  refine own_go (st' := T7.setTop (mkF m 10 #[oR a1, oR r_1, oi 2, oi 1, oR e_1] [(.int (1 : Int32))])) (fun _ k => XS.iloadN X7.here hx rfl (hb hby d9_9) rfl k) ?_
  refine own_go (st' := T7.setTop (mkF m 11 #[oR a1, oR r_1, oi 2, oi 1, oR e_1] [(.int (2 : Int32)), (.int (1 : Int32))])) (fun _ k => XS.iloadN X7.here hx rfl (hb hby d9_10) rfl k) ?_
  have hc18 : (1 : Int32) < (2 : Int32) := by decide
  refine own_go (st' := T7.setTop (mkF m 14 #[oR a1, oR r_1, oi 2, oi 1, oR e_1] [])) (fun _ k => XS.icmpNo X7.here hx rfl (hb hby d9_11) rfl (tlt hc18).2.1 k) ?_
  refine own_go (st' := T7.setTop (mkF m 15 #[oR a1, oR r_1, oi 2, oi 1, oR e_1] [(.ref r_1)])) (fun _ k => XS.aloadN X7.here hx rfl (hb hby d9_14) rfl rfl k) ?_
  refine own_go (st' := T7.setTop (mkF m 16 #[oR a1, oR r_1, oi 2, oi 1, oR e_1] [(.int (1 : Int32)), (.ref r_1)])) (fun _ k => XS.iloadN X7.here hx rfl (hb hby d9_15) rfl k) ?_
  obtain ⟨cl19, Ar19, -, S19, M19, H19, -⟩ := id g1_0
  have hin19 : ¬ ((1 : Int32) < 0 ∨ cl19.slots.size ≤ ((1 : Int32)).toNatClampNeg) := (inb_of S19 ⟨by decide, by decide⟩)
  have hat19 : cl19.slots[((1 : Int32)).toNatClampNeg]? = some (.ref e_2) := (H19.at hin19 rfl)
  refine own_go (st' := T7.setTop (mkF m 17 #[oR a1, oR r_1, oi 2, oi 1, oR e_1] [(.ref e_2)])) (X7.aaload hx (j := (1 : Int32)) (v := (.ref e_2)) (by rw [eq7]; exact Ar19.1) (State.isArrayOf_alike hZ.alike Ar19.2.1) rfl Ar19.2.2 hin19 hat19 (g := (mkF m 16 #[oR a1, oR r_1, oi 2, oi 1, oR e_1] [(.int (1 : Int32)), (.ref r_1)])) rfl rfl (hb hby d9_16)) ?_
  refine own_go (st' := T7.setTop (mkF m 19 #[oR a1, oR r_1, oi 2, oi 1, oR e_2] [])) (fun _ k => XS.astore X7.here hx rfl (hb hby d9_17) rfl rfl (l' := #[oR a1, oR r_1, oi 2, oi 1, oR e_2]) rfl k) ?_
  refine own_go (st' := T7.setTop (mkF m 21 #[oR a1, oR r_1, oi 2, oi 1, oR e_2] [(.ref e_2)])) (fun _ k => XS.aload X7.here hx rfl (hb hby d9_19) rfl rfl k) ?_
  have c20 : Fld Z h1 e_2 oS1 "m_sText" oS2 (.ref t_2) := (pr12.keep K1 nin0)
  obtain ⟨T21, X21, e21, st21⟩ := getF X7 hx hZ hown (host := "") (Or.inl (own_hw hw 58)) Via.refl eq7 c20 (g := (mkF m 21 #[oR a1, oR r_1, oi 2, oi 1, oR e_2] [(.ref e_2)])) rfl rfl (hb hby d9_21)
  refine own_go (st' := T21.setTop (mkF m 24 #[oR a1, oR r_1, oi 2, oi 1, oR e_2] [(.ref t_2)])) (st21) ?_
  refine own_go (st' := T21.setTop (mkF m 25 #[oR a1, oR r_1, oi 2, oi 1, oR e_2] [(.ref a1), (.ref t_2)])) (fun _ k => XS.aloadN X21.here hx rfl (hb hby d9_24) rfl rfl k) ?_
  have c23 : Exa Z h1 t_2 oS0 := (pr13.keep K1)
  have c24 : Fld Z h1 t_2 oS0 "value" "[B" (.ref tv_2) := (pr14.keep K1 nin0)
  have c25 : Fld Z h1 t_2 oS0 "coder" "B" (.int (0 : Int32)) := (pr15.keep K1 nin0)
  have c26 : Arv Z h1 tv_2 tk_2 .byte (3 : Int32) [(.int (50 : Int32)), (.int (46 : Int32)), (.int (48 : Int32))] (.int (0 : Int32)) := (pr16.keep K1 nin0)
  obtain ⟨cq22, kq22, q22a, q22b, q22c⟩ := isOf hZ e21 c23
  obtain ⟨_, _, ⟨T22, LC22, kC22, nC22⟩, -, X22, ⟨Lc22, hQ22, lq22, yq22, zq22⟩, st22⟩ := X21.virtualBack hx (y := oM0) (z := oM0) hown (mvT hZ (own_hw hw 60)) (mvT hZ (own_hw hw 61)) (notFace_of_selects (args := #[]) (mvT hZ (own_hw hw 63))) (mvT hZ (own_hw hw 63)) (mvT hZ (own_hw hw 62)) (by decide) (backOf (W := 0) (rse_31 l Z a0 hw [] t_2 a1 zc tv_2 tk_2 ax ka (50 : Int32) (46 : Int32) (48 : Int32) w0 h1 n0 (by omega) c8 (by assumption) (own_ne (by omega)) c23 c24 c25 c12 c13 c14 c26 c16) hZ (own_hw hw 64) (own_hw hw 9) (by decide) (by decide)) q22a q22c (g := (mkF m 25 #[oR a1, oR r_1, oi 2, oi 1, oR e_2] [(.ref a1), (.ref t_2)])) rfl (by rw [hml]; rfl) (Steps.refl _) (argsL := [(.ref a1)]) (rest := []) (lenOf pd_8 rfl) rfl (by show 2 * 0 + _ ≤ _; exact Nat.le_of_eq rfl) (hb hby d9_25) (fun _ _ => ⟨rfl, e21, (by decide : 1 + 0 ≤ _), (by decide : 2 + 0 ≤ _)⟩)
  dsimp only [Pt.U, Pt.locs, Pt.cells, Pt.slots] at X22 lq22 yq22 zq22 st22 hQ22
  subst lq22 yq22 zq22
  obtain ⟨rfl, Nq22, eq22⟩ := hQ22
  have N22 := Fr.app N7 Nq22
  refine own_go (st' := T22.setTop (mkF m 28 #[oR a1, oR r_1, oi 2, oi 1, oR e_2] [(.int (0 : Int32))])) (fun _ k => st22.trans k) ?_
  have hc27 : (0 : Int32) = (0 : Int32) := by decide
  refine own_go (st' := T22.setTop (mkF m 34 #[oR a1, oR r_1, oi 2, oi 1, oR e_2] [])) (fun _ k => XS.ifYes X22.here hx rfl (pc0 := 28) (pc' := 34) rfl (hb hby d9_28) rfl ((if0 _ _).trans (teq hc27).1) (by decide) (by decide) k) ?_
  refine own_go (st' := T22.setTop (mkF m 37 #[oR a1, oR r_1, oi 2, oi 2, oR e_2] [])) (fun _ k => XS.iinc X22.here hx rfl (hb hby d9_34) rfl (l' := #[oR a1, oR r_1, oi 2, oi 2, oR e_2]) (by rw [show ((1 : Int32) + Int32.ofInt 1) = (2 : Int32) by decide]; rfl) k) ?_
  refine own_go (st' := T22.setTop (mkF m 9 #[oR a1, oR r_1, oi 2, oi 2, oR e_2] [])) (fun _ k => XS.goto X22.here hx rfl (pc0 := 37) (pc' := 9) rfl (hb hby d9_37) (by decide) (by decide) k) ?_
  refine own_go (st' := T22.setTop (mkF m 10 #[oR a1, oR r_1, oi 2, oi 2, oR e_2] [(.int (2 : Int32))])) (fun _ k => XS.iloadN X22.here hx rfl (hb hby d9_9) rfl k) ?_
  refine own_go (st' := T22.setTop (mkF m 11 #[oR a1, oR r_1, oi 2, oi 2, oR e_2] [(.int (2 : Int32)), (.int (2 : Int32))])) (fun _ k => XS.iloadN X22.here hx rfl (hb hby d9_10) rfl k) ?_
  have hc28 : ¬ ((2 : Int32) < (2 : Int32)) := by decide
  refine own_go (st' := T22.setTop (mkF m 40 #[oR a1, oR r_1, oi 2, oi 2, oR e_2] [])) (fun _ k => XS.icmpYes X22.here hx rfl (pc0 := 11) (pc' := 40) rfl (hb hby d9_11) rfl (flt hc28).2.1 (by decide) (by decide) k) ?_
  refine own_go (st' := T22.setTop (mkF m 41 #[oR a1, oR r_1, oi 2, oi 2, oR e_2] [.null])) (fun _ k => XS.aconstNull X22.here hx rfl (hb hby d9_40) k) ?_
  obtain ⟨fs, hr, hrun, hended, hW, hsame⟩ := X22.leave (v := some .null) (fun h => by rw [Bd.returns] at h; cases h)
  refine ⟨_, _, ?_, hP _ _ hrun hended ⟨_, _, rfl, ?_, ⟨_, rfl⟩, hW, hsame.mono (by decide) (by decide)⟩⟩
  · exact retOut X22 hx Bd.returns rfl (Or.inr (Or.inr (Or.inr (Or.inr ⟨rfl, rfl, rfl⟩)))) (hb hby d9_41) hr
  · show Qrof_1 Z va kva e_1 e_2 t_1 tv_1 tk_1 t_2 tv_2 tk_2 a1 ax ka w0 zc h0 n0 _ T22.heap _
    rw [eq22]
    exact ⟨rfl, N22, ((Keep.refl h0 []).trans K1 all0)⟩
theorem ef_rof_2 (m : MethodId) (x0 : Addr) : entryFrame m #[(.ref x0)] 5 = mkF m 0 #[.val (.ref x0), .unset, .unset, .unset, .unset] [] := by first | (simp [entryFrame, mkF, argsToLocals, Value.category]; done) | rfl
def Qrof_2 (Z : State) (va : Addr) (kva : ClassId) (e_1 : Addr) (e_2 : Addr) (t_1 : Addr) (tv_1 : Addr) (tk_1 : ClassId) (t_2 : Addr) (tv_2 : Addr) (tk_2 : ClassId) (a1 : Addr) (ax : Addr) (ka : ClassId) (w0 : Int32) (w1 : Int32) (zc : Int32) (h0 : Heap) (n0 : Nat) (v : Option Value) (h : Heap) (L : List Loc) : Prop := (v = some .null) ∧ (Fr n0 L) ∧ (Keep h0 h [])
set_option maxRecDepth 65536 in
set_option maxHeartbeats 40000000 in
theorem rof_2 (l : Launch) (Z : State) (a0 : Array Value) (hw : ∀ d ∈ tables_1, d.before a0 Z = true) (ws : List Jvm.Cond) (va : Addr) (kva : ClassId) (e_1 : Addr) (e_2 : Addr) (t_1 : Addr) (tv_1 : Addr) (tk_1 : ClassId) (t_2 : Addr) (tv_2 : Addr) (tk_2 : ClassId) (a1 : Addr) (ax : Addr) (ka : ClassId) (w0 : Int32) (w1 : Int32) (zc : Int32) (h0 : Heap) (n0 : Nat) (Z0 : n0 ≤ h0.size) (pr1 : Sta Z h0 oS0 oS3 "Z" (.int zc)) (hzc : ¬ zc = (0 : Int32)) (pr2 : Sta Z h0 oS1 "$VALUES" oS4 (.ref va)) (pr3 : Arv Z h0 va kva (.object oS1) (2 : Int32) [(.ref e_1), (.ref e_2)] .null) (pr4 : Exa Z h0 va oS4) (pr5 : Exa Z h0 e_1 oS1) (pr6 : Exa Z h0 e_2 oS1) (pr7 : Fld Z h0 e_1 oS1 "m_sText" oS2 (.ref t_1)) (pr8 : Exa Z h0 t_1 oS0) (pr9 : Fld Z h0 t_1 oS0 "value" "[B" (.ref tv_1)) (pr10 : Fld Z h0 t_1 oS0 "coder" "B" (.int (0 : Int32))) (pr11 : Arv Z h0 tv_1 tk_1 .byte (3 : Int32) [(.int (49 : Int32)), (.int (46 : Int32)), (.int (48 : Int32))] (.int (0 : Int32))) (pr12 : Fld Z h0 e_2 oS1 "m_sText" oS2 (.ref t_2)) (pr13 : Exa Z h0 t_2 oS0) (pr14 : Fld Z h0 t_2 oS0 "value" "[B" (.ref tv_2)) (pr15 : Fld Z h0 t_2 oS0 "coder" "B" (.int (0 : Int32))) (pr16 : Arv Z h0 tv_2 tk_2 .byte (3 : Int32) [(.int (50 : Int32)), (.int (46 : Int32)), (.int (48 : Int32))] (.int (0 : Int32))) (pr17 : Exa Z h0 a1 oS0) (pr18 : Fld Z h0 a1 oS0 "value" "[B" (.ref ax)) (pr19 : Fld Z h0 a1 oS0 "coder" "B" (.int (0 : Int32))) (pr20 : Arv Z h0 ax ka .byte (2 : Int32) [(.int w0), (.int w1)] (.int (0 : Int32))) (pr21 : @Ne Nat t_1 a1) (pr22 : @Ne Nat t_2 a1) :
    MetFree l oM1 (head1 (Jvm.Cond.code oM1 prog_60_method_5_code 5 (some (.object oS1)) :: ws) ({ frames := 2, cells := 1, slots := 2, locals := 28 } : Room)) (fun a U => a = #[(.ref a1)] ∧ Z.Warmed39 U.vm ∧ U.heap = h0) (fun _ _ _ _ _ => True) (fun _ U o U' => ∃ v L, o = .returned v ∧ Qrof_2 Z va kva e_1 e_2 t_1 tv_1 tk_1 t_2 tv_2 tk_2 a1 ax ka w0 w1 zc h0 n0 v U'.heap L ∧ FrameEnd U o U' L ({ frames := 2, cells := 1, slots := 2, locals := 28 } : Room).cells ({ frames := 2, cells := 1, slots := 2, locals := 28 } : Room).slots) := by
  refine MetFree.of_bodySF (plainFor_of_name pn_9) hisR ?_
  intro p e s m args below meth c s₁ Bd hml0 hP0 hK
  obtain ⟨rfl, hZ, hh⟩ := hP0
  have hx := Bd.exec
  have hby := Bd.bytes
  have hml : c.maxLocals = 5 := hml0
  have hown : s.vm.findClass oS1 = some m.cls := findClass_of_methodNamed Bd.named
  have hnm := (name_of_methodNamed Bd.named Bd.method).1
  have X0 : Stand p l e ({ frames := 2, cells := 1, slots := 2, locals := 28 } : Room) s m #[(.ref a1)] below meth c s₁ [] 0 0 := Stand.of_body Bd
  have e0 : s₁.heap = h0 := by rw [← hh, Bd.state]; rfl
  have N0 := Fr.nil n0
  suffices own_H : ∀ (P : State → Outcome → Prop), (∀ U o, U.status = .running → Ended U below o → (∃ v L, o = .returned v ∧ Qrof_2 Z va kva e_1 e_2 t_1 tv_1 tk_1 t_2 tv_2 tk_2 a1 ax ka w0 w1 zc h0 n0 v U.heap L ∧ FrameEnd s o U L ({ frames := 2, cells := 1, slots := 2, locals := 28 } : Room).cells ({ frames := 2, cells := 1, slots := 2, locals := 28 } : Room).slots) → P U o) → own_Go p.tables e below P (s₁.setTop (mkF m 0 #[oR a1, .unset, .unset, .unset, .unset] [])) from own_go (fun _ k => castTop (ef_rof_2 m a1) k) (own_H _ (fun U o h1 h2 h3 => ⟨h1, h2, h3⟩))
  intro P hP
  have lt_va : @LT.lt Nat _ va h0.size := pr3.lt
  have lt_e_1 : @LT.lt Nat _ e_1 h0.size := pr5.lt
  have lt_e_2 : @LT.lt Nat _ e_2 h0.size := pr6.lt
  have lt_t_1 : @LT.lt Nat _ t_1 h0.size := pr8.lt
  have lt_tv_1 : @LT.lt Nat _ tv_1 h0.size := pr11.lt
  have lt_t_2 : @LT.lt Nat _ t_2 h0.size := pr13.lt
  have lt_tv_2 : @LT.lt Nat _ tv_2 h0.size := pr16.lt
  have lt_a1 : @LT.lt Nat _ a1 h0.size := pr17.lt
  have lt_ax : @LT.lt Nat _ ax h0.size := pr20.lt
  obtain ⟨_, _, ⟨T1, LC1, kC1, nC1⟩, -, X1, ⟨Lc1, hQ1, lq1, yq1, zq1⟩, st1⟩ := Jvm.LawKit.callS X0 hx (y := oM9) hown (mvT hZ (own_hw hw 41)) (mvT hZ (own_hw hw 42)) (mvT hZ (own_hw hw 39)) (mvT hZ (own_hw hw 43)) (by decide) (backOf (W := 0) (rm10 l Z a0 hw [] va kva e_1 e_2 h0 n0 (by omega) pr2 pr3 pr4) hZ (own_hw hw 43) (own_hw hw 39) (by decide) (by decide)) (g := (mkF m 0 #[oR a1, .unset, .unset, .unset, .unset] [])) rfl (by rw [hml]; rfl) (argsL := []) (rest := []) (lenOf pd_7 rfl) rfl (by show 2 * 0 + _ ≤ _; exact Nat.le_of_eq rfl) (hb hby d9_0) (fun _ _ => ⟨rfl, e0, (by decide : 0 + 1 ≤ _), (by decide : 0 + 2 ≤ _)⟩)
  dsimp only [Pt.U, Pt.locs, Pt.cells, Pt.slots] at X1 lq1 yq1 zq1 st1 hQ1
  subst lq1 yq1 zq1
  obtain ⟨h1, e1⟩ : ∃ z, T1.heap = z := ⟨_, rfl⟩
  rw [e1] at hQ1
  obtain ⟨r_1, rfl, Nq1, K1, g1_0, g1_1⟩ := hQ1
  have sz1 : h0.size ≤ h1.size := K1.1
  have N1 := Fr.app N0 Nq1
  have lt1_1 : @LT.lt Nat _ r_1 h1.size := g1_0.lt
  refine own_go (st' := T1.setTop (mkF m 3 #[oR a1, .unset, .unset, .unset, .unset] [(.ref r_1)])) (fun t k => st1 t k) ?_
  refine own_go (st' := T1.setTop (mkF m 4 #[oR a1, oR r_1, .unset, .unset, .unset] [])) (fun _ k => XS.astoreN X1.here hx rfl (hb hby d9_3) rfl rfl (l' := #[oR a1, oR r_1, .unset, .unset, .unset]) rfl k) ?_
  refine own_go (st' := T1.setTop (mkF m 5 #[oR a1, oR r_1, .unset, .unset, .unset] [(.ref r_1)])) (fun _ k => XS.aloadN X1.here hx rfl (hb hby d9_4) rfl rfl k) ?_
  obtain ⟨cl2, Ar2, -, S2, M2, -, -⟩ := id g1_0
  refine own_go (st' := T1.setTop (mkF m 6 #[oR a1, oR r_1, .unset, .unset, .unset] [(.int (2 : Int32))])) (fun t k => X1.arraylength hx (by rw [e1]; exact Ar2.1) (State.isArrayOf_alike hZ.alike Ar2.2.1) (g := (mkF m 5 #[oR a1, oR r_1, .unset, .unset, .unset] [(.ref r_1)])) rfl rfl (hb hby d9_5) t (by rw [len_of S2 M2]; exact k)) ?_
  refine own_go (st' := T1.setTop (mkF m 7 #[oR a1, oR r_1, oi 2, .unset, .unset] [])) (fun _ k => XS.istoreN X1.here hx rfl (hb hby d9_6) rfl (l' := #[oR a1, oR r_1, oi 2, .unset, .unset]) rfl k) ?_
  refine own_go (st' := T1.setTop (mkF m 8 #[oR a1, oR r_1, oi 2, .unset, .unset] [(.int (0 : Int32))])) (fun _ k => XS.iconst X1.here hx rfl (hb hby d9_7) k) ?_
  refine own_go (st' := T1.setTop (mkF m 9 #[oR a1, oR r_1, oi 2, oi 0, .unset] [])) (fun _ k => XS.istoreN X1.here hx rfl (hb hby d9_8) rfl (l' := #[oR a1, oR r_1, oi 2, oi 0, .unset]) rfl k) ?_
  refine own_go (st' := T1.setTop (mkF m 10 #[oR a1, oR r_1, oi 2, oi 0, .unset] [(.int (0 : Int32))])) (fun _ k => XS.iloadN X1.here hx rfl (hb hby d9_9) rfl k) ?_
  refine own_go (st' := T1.setTop (mkF m 11 #[oR a1, oR r_1, oi 2, oi 0, .unset] [(.int (2 : Int32)), (.int (0 : Int32))])) (fun _ k => XS.iloadN X1.here hx rfl (hb hby d9_10) rfl k) ?_
  have hc3 : (0 : Int32) < (2 : Int32) := by decide
  refine own_go (st' := T1.setTop (mkF m 14 #[oR a1, oR r_1, oi 2, oi 0, .unset] [])) (fun _ k => XS.icmpNo X1.here hx rfl (hb hby d9_11) rfl (tlt hc3).2.1 k) ?_
  refine own_go (st' := T1.setTop (mkF m 15 #[oR a1, oR r_1, oi 2, oi 0, .unset] [(.ref r_1)])) (fun _ k => XS.aloadN X1.here hx rfl (hb hby d9_14) rfl rfl k) ?_
  refine own_go (st' := T1.setTop (mkF m 16 #[oR a1, oR r_1, oi 2, oi 0, .unset] [(.int (0 : Int32)), (.ref r_1)])) (fun _ k => XS.iloadN X1.here hx rfl (hb hby d9_15) rfl k) ?_
  obtain ⟨cl4, Ar4, -, S4, M4, H4, -⟩ := id g1_0
  have hin4 : ¬ ((0 : Int32) < 0 ∨ cl4.slots.size ≤ ((0 : Int32)).toNatClampNeg) := (inb_of S4 ⟨by decide, by decide⟩)
  have hat4 : cl4.slots[((0 : Int32)).toNatClampNeg]? = some (.ref e_1) := (H4.at hin4 rfl)
  refine own_go (st' := T1.setTop (mkF m 17 #[oR a1, oR r_1, oi 2, oi 0, .unset] [(.ref e_1)])) (X1.aaload hx (j := (0 : Int32)) (v := (.ref e_1)) (by rw [e1]; exact Ar4.1) (State.isArrayOf_alike hZ.alike Ar4.2.1) rfl Ar4.2.2 hin4 hat4 (g := (mkF m 16 #[oR a1, oR r_1, oi 2, oi 0, .unset] [(.int (0 : Int32)), (.ref r_1)])) rfl rfl (hb hby d9_16)) ?_
  refine own_go (st' := T1.setTop (mkF m 19 #[oR a1, oR r_1, oi 2, oi 0, oR e_1] [])) (fun _ k => XS.astore X1.here hx rfl (hb hby d9_17) rfl rfl (l' := #[oR a1, oR r_1, oi 2, oi 0, oR e_1]) rfl k) ?_
  refine own_go (st' := T1.setTop (mkF m 21 #[oR a1, oR r_1, oi 2, oi 0, oR e_1] [(.ref e_1)])) (fun _ k => XS.aload X1.here hx rfl (hb hby d9_19) rfl rfl k) ?_
  have c5 : Fld Z h1 e_1 oS1 "m_sText" oS2 (.ref t_1) := (pr7.keep K1 nin0)
  obtain ⟨T6, X6, e6, st6⟩ := getF X1 hx hZ hown (host := "") (Or.inl (own_hw hw 58)) Via.refl e1 c5 (g := (mkF m 21 #[oR a1, oR r_1, oi 2, oi 0, oR e_1] [(.ref e_1)])) rfl rfl (hb hby d9_21)
  refine own_go (st' := T6.setTop (mkF m 24 #[oR a1, oR r_1, oi 2, oi 0, oR e_1] [(.ref t_1)])) (st6) ?_
  refine own_go (st' := T6.setTop (mkF m 25 #[oR a1, oR r_1, oi 2, oi 0, oR e_1] [(.ref a1), (.ref t_1)])) (fun _ k => XS.aloadN X6.here hx rfl (hb hby d9_24) rfl rfl k) ?_
  have c8 : Sta Z h1 oS0 oS3 "Z" (.int zc) := (own_sta_keep pr1 K1 all0)
  have c9 : Exa Z h1 t_1 oS0 := (pr8.keep K1)
  have c10 : Fld Z h1 t_1 oS0 "value" "[B" (.ref tv_1) := (pr9.keep K1 nin0)
  have c11 : Fld Z h1 t_1 oS0 "coder" "B" (.int (0 : Int32)) := (pr10.keep K1 nin0)
  have c12 : Exa Z h1 a1 oS0 := (pr17.keep K1)
  have c13 : Fld Z h1 a1 oS0 "value" "[B" (.ref ax) := (pr18.keep K1 nin0)
  have c14 : Fld Z h1 a1 oS0 "coder" "B" (.int (0 : Int32)) := (pr19.keep K1 nin0)
  have c15 : Arv Z h1 tv_1 tk_1 .byte (3 : Int32) [(.int (49 : Int32)), (.int (46 : Int32)), (.int (48 : Int32))] (.int (0 : Int32)) := (pr11.keep K1 nin0)
  have c16 : Arv Z h1 ax ka .byte (2 : Int32) [(.int w0), (.int w1)] (.int (0 : Int32)) := (pr20.keep K1 nin0)
  obtain ⟨cq7, kq7, q7a, q7b, q7c⟩ := isOf hZ e6 c9
  obtain ⟨_, _, ⟨T7, LC7, kC7, nC7⟩, -, X7, ⟨Lc7, hQ7, lq7, yq7, zq7⟩, st7⟩ := X6.virtualBack hx (y := oM0) (z := oM0) hown (mvT hZ (own_hw hw 60)) (mvT hZ (own_hw hw 61)) (notFace_of_selects (args := #[]) (mvT hZ (own_hw hw 63))) (mvT hZ (own_hw hw 63)) (mvT hZ (own_hw hw 62)) (by decide) (backOf (W := 0) (rse_32 l Z a0 hw [] t_1 a1 zc tv_1 tk_1 ax ka (49 : Int32) (46 : Int32) (48 : Int32) w0 w1 h1 n0 (by omega) c8 (by assumption) (own_ne (by omega)) c9 c10 c11 c12 c13 c14 c15 c16) hZ (own_hw hw 64) (own_hw hw 9) (by decide) (by decide)) q7a q7c (g := (mkF m 25 #[oR a1, oR r_1, oi 2, oi 0, oR e_1] [(.ref a1), (.ref t_1)])) rfl (by rw [hml]; rfl) (Steps.refl _) (argsL := [(.ref a1)]) (rest := []) (lenOf pd_8 rfl) rfl (by show 2 * 0 + _ ≤ _; exact Nat.le_of_eq rfl) (hb hby d9_25) (fun _ _ => ⟨rfl, e6, (by decide : 1 + 0 ≤ _), (by decide : 2 + 0 ≤ _)⟩)
  dsimp only [Pt.U, Pt.locs, Pt.cells, Pt.slots] at X7 lq7 yq7 zq7 st7 hQ7
  subst lq7 yq7 zq7
  obtain ⟨rfl, Nq7, eq7⟩ := hQ7
  have N7 := Fr.app N1 Nq7
  refine own_go (st' := T7.setTop (mkF m 28 #[oR a1, oR r_1, oi 2, oi 0, oR e_1] [(.int (0 : Int32))])) (fun _ k => st7.trans k) ?_
  have hc17 : (0 : Int32) = (0 : Int32) := by decide
  refine own_go (st' := T7.setTop (mkF m 34 #[oR a1, oR r_1, oi 2, oi 0, oR e_1] [])) (fun _ k => XS.ifYes X7.here hx rfl (pc0 := 28) (pc' := 34) rfl (hb hby d9_28) rfl ((if0 _ _).trans (teq hc17).1) (by decide) (by decide) k) ?_
  refine own_go (st' := T7.setTop (mkF m 37 #[oR a1, oR r_1, oi 2, oi 1, oR e_1] [])) (fun _ k => XS.iinc X7.here hx rfl (hb hby d9_34) rfl (l' := #[oR a1, oR r_1, oi 2, oi 1, oR e_1]) (by rw [show ((0 : Int32) + Int32.ofInt 1) = (1 : Int32) by decide]; rfl) k) ?_
  refine own_go (st' := T7.setTop (mkF m 9 #[oR a1, oR r_1, oi 2, oi 1, oR e_1] [])) (fun _ k => XS.goto X7.here hx rfl (pc0 := 37) (pc' := 9) rfl (hb hby d9_37) (by decide) (by decide) k) ?_
  refine own_go (st' := T7.setTop (mkF m 10 #[oR a1, oR r_1, oi 2, oi 1, oR e_1] [(.int (1 : Int32))])) (fun _ k => XS.iloadN X7.here hx rfl (hb hby d9_9) rfl k) ?_
  refine own_go (st' := T7.setTop (mkF m 11 #[oR a1, oR r_1, oi 2, oi 1, oR e_1] [(.int (2 : Int32)), (.int (1 : Int32))])) (fun _ k => XS.iloadN X7.here hx rfl (hb hby d9_10) rfl k) ?_
  have hc18 : (1 : Int32) < (2 : Int32) := by decide
  refine own_go (st' := T7.setTop (mkF m 14 #[oR a1, oR r_1, oi 2, oi 1, oR e_1] [])) (fun _ k => XS.icmpNo X7.here hx rfl (hb hby d9_11) rfl (tlt hc18).2.1 k) ?_
  refine own_go (st' := T7.setTop (mkF m 15 #[oR a1, oR r_1, oi 2, oi 1, oR e_1] [(.ref r_1)])) (fun _ k => XS.aloadN X7.here hx rfl (hb hby d9_14) rfl rfl k) ?_
  refine own_go (st' := T7.setTop (mkF m 16 #[oR a1, oR r_1, oi 2, oi 1, oR e_1] [(.int (1 : Int32)), (.ref r_1)])) (fun _ k => XS.iloadN X7.here hx rfl (hb hby d9_15) rfl k) ?_
  obtain ⟨cl19, Ar19, -, S19, M19, H19, -⟩ := id g1_0
  have hin19 : ¬ ((1 : Int32) < 0 ∨ cl19.slots.size ≤ ((1 : Int32)).toNatClampNeg) := (inb_of S19 ⟨by decide, by decide⟩)
  have hat19 : cl19.slots[((1 : Int32)).toNatClampNeg]? = some (.ref e_2) := (H19.at hin19 rfl)
  refine own_go (st' := T7.setTop (mkF m 17 #[oR a1, oR r_1, oi 2, oi 1, oR e_1] [(.ref e_2)])) (X7.aaload hx (j := (1 : Int32)) (v := (.ref e_2)) (by rw [eq7]; exact Ar19.1) (State.isArrayOf_alike hZ.alike Ar19.2.1) rfl Ar19.2.2 hin19 hat19 (g := (mkF m 16 #[oR a1, oR r_1, oi 2, oi 1, oR e_1] [(.int (1 : Int32)), (.ref r_1)])) rfl rfl (hb hby d9_16)) ?_
  refine own_go (st' := T7.setTop (mkF m 19 #[oR a1, oR r_1, oi 2, oi 1, oR e_2] [])) (fun _ k => XS.astore X7.here hx rfl (hb hby d9_17) rfl rfl (l' := #[oR a1, oR r_1, oi 2, oi 1, oR e_2]) rfl k) ?_
  refine own_go (st' := T7.setTop (mkF m 21 #[oR a1, oR r_1, oi 2, oi 1, oR e_2] [(.ref e_2)])) (fun _ k => XS.aload X7.here hx rfl (hb hby d9_19) rfl rfl k) ?_
  have c20 : Fld Z h1 e_2 oS1 "m_sText" oS2 (.ref t_2) := (pr12.keep K1 nin0)
  obtain ⟨T21, X21, e21, st21⟩ := getF X7 hx hZ hown (host := "") (Or.inl (own_hw hw 58)) Via.refl eq7 c20 (g := (mkF m 21 #[oR a1, oR r_1, oi 2, oi 1, oR e_2] [(.ref e_2)])) rfl rfl (hb hby d9_21)
  refine own_go (st' := T21.setTop (mkF m 24 #[oR a1, oR r_1, oi 2, oi 1, oR e_2] [(.ref t_2)])) (st21) ?_
  refine own_go (st' := T21.setTop (mkF m 25 #[oR a1, oR r_1, oi 2, oi 1, oR e_2] [(.ref a1), (.ref t_2)])) (fun _ k => XS.aloadN X21.here hx rfl (hb hby d9_24) rfl rfl k) ?_
  have c23 : Exa Z h1 t_2 oS0 := (pr13.keep K1)
  have c24 : Fld Z h1 t_2 oS0 "value" "[B" (.ref tv_2) := (pr14.keep K1 nin0)
  have c25 : Fld Z h1 t_2 oS0 "coder" "B" (.int (0 : Int32)) := (pr15.keep K1 nin0)
  have c26 : Arv Z h1 tv_2 tk_2 .byte (3 : Int32) [(.int (50 : Int32)), (.int (46 : Int32)), (.int (48 : Int32))] (.int (0 : Int32)) := (pr16.keep K1 nin0)
  obtain ⟨cq22, kq22, q22a, q22b, q22c⟩ := isOf hZ e21 c23
  obtain ⟨_, _, ⟨T22, LC22, kC22, nC22⟩, -, X22, ⟨Lc22, hQ22, lq22, yq22, zq22⟩, st22⟩ := X21.virtualBack hx (y := oM0) (z := oM0) hown (mvT hZ (own_hw hw 60)) (mvT hZ (own_hw hw 61)) (notFace_of_selects (args := #[]) (mvT hZ (own_hw hw 63))) (mvT hZ (own_hw hw 63)) (mvT hZ (own_hw hw 62)) (by decide) (backOf (W := 0) (rse_32 l Z a0 hw [] t_2 a1 zc tv_2 tk_2 ax ka (50 : Int32) (46 : Int32) (48 : Int32) w0 w1 h1 n0 (by omega) c8 (by assumption) (own_ne (by omega)) c23 c24 c25 c12 c13 c14 c26 c16) hZ (own_hw hw 64) (own_hw hw 9) (by decide) (by decide)) q22a q22c (g := (mkF m 25 #[oR a1, oR r_1, oi 2, oi 1, oR e_2] [(.ref a1), (.ref t_2)])) rfl (by rw [hml]; rfl) (Steps.refl _) (argsL := [(.ref a1)]) (rest := []) (lenOf pd_8 rfl) rfl (by show 2 * 0 + _ ≤ _; exact Nat.le_of_eq rfl) (hb hby d9_25) (fun _ _ => ⟨rfl, e21, (by decide : 1 + 0 ≤ _), (by decide : 2 + 0 ≤ _)⟩)
  dsimp only [Pt.U, Pt.locs, Pt.cells, Pt.slots] at X22 lq22 yq22 zq22 st22 hQ22
  subst lq22 yq22 zq22
  obtain ⟨rfl, Nq22, eq22⟩ := hQ22
  have N22 := Fr.app N7 Nq22
  refine own_go (st' := T22.setTop (mkF m 28 #[oR a1, oR r_1, oi 2, oi 1, oR e_2] [(.int (0 : Int32))])) (fun _ k => st22.trans k) ?_
  have hc27 : (0 : Int32) = (0 : Int32) := by decide
  refine own_go (st' := T22.setTop (mkF m 34 #[oR a1, oR r_1, oi 2, oi 1, oR e_2] [])) (fun _ k => XS.ifYes X22.here hx rfl (pc0 := 28) (pc' := 34) rfl (hb hby d9_28) rfl ((if0 _ _).trans (teq hc27).1) (by decide) (by decide) k) ?_
  refine own_go (st' := T22.setTop (mkF m 37 #[oR a1, oR r_1, oi 2, oi 2, oR e_2] [])) (fun _ k => XS.iinc X22.here hx rfl (hb hby d9_34) rfl (l' := #[oR a1, oR r_1, oi 2, oi 2, oR e_2]) (by rw [show ((1 : Int32) + Int32.ofInt 1) = (2 : Int32) by decide]; rfl) k) ?_
  refine own_go (st' := T22.setTop (mkF m 9 #[oR a1, oR r_1, oi 2, oi 2, oR e_2] [])) (fun _ k => XS.goto X22.here hx rfl (pc0 := 37) (pc' := 9) rfl (hb hby d9_37) (by decide) (by decide) k) ?_
  refine own_go (st' := T22.setTop (mkF m 10 #[oR a1, oR r_1, oi 2, oi 2, oR e_2] [(.int (2 : Int32))])) (fun _ k => XS.iloadN X22.here hx rfl (hb hby d9_9) rfl k) ?_
  refine own_go (st' := T22.setTop (mkF m 11 #[oR a1, oR r_1, oi 2, oi 2, oR e_2] [(.int (2 : Int32)), (.int (2 : Int32))])) (fun _ k => XS.iloadN X22.here hx rfl (hb hby d9_10) rfl k) ?_
  have hc28 : ¬ ((2 : Int32) < (2 : Int32)) := by decide
  refine own_go (st' := T22.setTop (mkF m 40 #[oR a1, oR r_1, oi 2, oi 2, oR e_2] [])) (fun _ k => XS.icmpYes X22.here hx rfl (pc0 := 11) (pc' := 40) rfl (hb hby d9_11) rfl (flt hc28).2.1 (by decide) (by decide) k) ?_
  refine own_go (st' := T22.setTop (mkF m 41 #[oR a1, oR r_1, oi 2, oi 2, oR e_2] [.null])) (fun _ k => XS.aconstNull X22.here hx rfl (hb hby d9_40) k) ?_
  obtain ⟨fs, hr, hrun, hended, hW, hsame⟩ := X22.leave (v := some .null) (fun h => by rw [Bd.returns] at h; cases h)
  refine ⟨_, _, ?_, hP _ _ hrun hended ⟨_, _, rfl, ?_, ⟨_, rfl⟩, hW, hsame.mono (by decide) (by decide)⟩⟩
  · exact retOut X22 hx Bd.returns rfl (Or.inr (Or.inr (Or.inr (Or.inr ⟨rfl, rfl, rfl⟩)))) (hb hby d9_41) hr
  · show Qrof_2 Z va kva e_1 e_2 t_1 tv_1 tk_1 t_2 tv_2 tk_2 a1 ax ka w0 w1 zc h0 n0 _ T22.heap _
    rw [eq22]
    exact ⟨rfl, N22, ((Keep.refl h0 []).trans K1 all0)⟩
theorem d9_31 : decode prog_60_method_5_code 31 = .ok (.aload 4, 2) := by decide +kernel
theorem d9_33 : decode prog_60_method_5_code 33 = .ok (.areturn, 1) := by decide +kernel
theorem ef_rof_3 (m : MethodId) (x0 : Addr) : entryFrame m #[(.ref x0)] 5 = mkF m 0 #[.val (.ref x0), .unset, .unset, .unset, .unset] [] := by first | (simp [entryFrame, mkF, argsToLocals, Value.category]; done) | rfl
def Qrof_3 (Z : State) (va : Addr) (kva : ClassId) (e_1 : Addr) (e_2 : Addr) (t_1 : Addr) (tv_1 : Addr) (tk_1 : ClassId) (t_2 : Addr) (tv_2 : Addr) (tk_2 : ClassId) (a1 : Addr) (ax : Addr) (ka : ClassId) (w0 : Int32) (w1 : Int32) (w2 : Int32) (zc : Int32) (h0 : Heap) (n0 : Nat) (v : Option Value) (h : Heap) (L : List Loc) : Prop := (v = some (own_of w0 w1 w2 e_1 e_2)) ∧ (Fr n0 L) ∧ (Keep h0 h [])
set_option maxRecDepth 65536 in
set_option maxHeartbeats 40000000 in
theorem rof_3 (l : Launch) (Z : State) (a0 : Array Value) (hw : ∀ d ∈ tables_1, d.before a0 Z = true) (ws : List Jvm.Cond) (va : Addr) (kva : ClassId) (e_1 : Addr) (e_2 : Addr) (t_1 : Addr) (tv_1 : Addr) (tk_1 : ClassId) (t_2 : Addr) (tv_2 : Addr) (tk_2 : ClassId) (a1 : Addr) (ax : Addr) (ka : ClassId) (w0 : Int32) (w1 : Int32) (w2 : Int32) (zc : Int32) (h0 : Heap) (n0 : Nat) (Z0 : n0 ≤ h0.size) (pr1 : Sta Z h0 oS0 oS3 "Z" (.int zc)) (hzc : ¬ zc = (0 : Int32)) (pr2 : Sta Z h0 oS1 "$VALUES" oS4 (.ref va)) (pr3 : Arv Z h0 va kva (.object oS1) (2 : Int32) [(.ref e_1), (.ref e_2)] .null) (pr4 : Exa Z h0 va oS4) (pr5 : Exa Z h0 e_1 oS1) (pr6 : Exa Z h0 e_2 oS1) (pr7 : Fld Z h0 e_1 oS1 "m_sText" oS2 (.ref t_1)) (pr8 : Exa Z h0 t_1 oS0) (pr9 : Fld Z h0 t_1 oS0 "value" "[B" (.ref tv_1)) (pr10 : Fld Z h0 t_1 oS0 "coder" "B" (.int (0 : Int32))) (pr11 : Arv Z h0 tv_1 tk_1 .byte (3 : Int32) [(.int (49 : Int32)), (.int (46 : Int32)), (.int (48 : Int32))] (.int (0 : Int32))) (pr12 : Fld Z h0 e_2 oS1 "m_sText" oS2 (.ref t_2)) (pr13 : Exa Z h0 t_2 oS0) (pr14 : Fld Z h0 t_2 oS0 "value" "[B" (.ref tv_2)) (pr15 : Fld Z h0 t_2 oS0 "coder" "B" (.int (0 : Int32))) (pr16 : Arv Z h0 tv_2 tk_2 .byte (3 : Int32) [(.int (50 : Int32)), (.int (46 : Int32)), (.int (48 : Int32))] (.int (0 : Int32))) (pr17 : Exa Z h0 a1 oS0) (pr18 : Fld Z h0 a1 oS0 "value" "[B" (.ref ax)) (pr19 : Fld Z h0 a1 oS0 "coder" "B" (.int (0 : Int32))) (pr20 : Arv Z h0 ax ka .byte (3 : Int32) [(.int w0), (.int w1), (.int w2)] (.int (0 : Int32))) (pr21 : @Ne Nat t_1 a1) (pr22 : @Ne Nat t_2 a1) :
    MetFree l oM1 (head1 (Jvm.Cond.code oM1 prog_60_method_5_code 5 (some (.object oS1)) :: ws) ({ frames := 2, cells := 1, slots := 2, locals := 28 } : Room)) (fun a U => a = #[(.ref a1)] ∧ Z.Warmed39 U.vm ∧ U.heap = h0) (fun _ _ _ _ _ => True) (fun _ U o U' => ∃ v L, o = .returned v ∧ Qrof_3 Z va kva e_1 e_2 t_1 tv_1 tk_1 t_2 tv_2 tk_2 a1 ax ka w0 w1 w2 zc h0 n0 v U'.heap L ∧ FrameEnd U o U' L ({ frames := 2, cells := 1, slots := 2, locals := 28 } : Room).cells ({ frames := 2, cells := 1, slots := 2, locals := 28 } : Room).slots) := by
  refine MetFree.of_bodySF (plainFor_of_name pn_9) hisR ?_
  intro p e s m args below meth c s₁ Bd hml0 hP0 hK
  obtain ⟨rfl, hZ, hh⟩ := hP0
  have hx := Bd.exec
  have hby := Bd.bytes
  have hml : c.maxLocals = 5 := hml0
  have hown : s.vm.findClass oS1 = some m.cls := findClass_of_methodNamed Bd.named
  have hnm := (name_of_methodNamed Bd.named Bd.method).1
  have X0 : Stand p l e ({ frames := 2, cells := 1, slots := 2, locals := 28 } : Room) s m #[(.ref a1)] below meth c s₁ [] 0 0 := Stand.of_body Bd
  have e0 : s₁.heap = h0 := by rw [← hh, Bd.state]; rfl
  have N0 := Fr.nil n0
  suffices own_H : ∀ (P : State → Outcome → Prop), (∀ U o, U.status = .running → Ended U below o → (∃ v L, o = .returned v ∧ Qrof_3 Z va kva e_1 e_2 t_1 tv_1 tk_1 t_2 tv_2 tk_2 a1 ax ka w0 w1 w2 zc h0 n0 v U.heap L ∧ FrameEnd s o U L ({ frames := 2, cells := 1, slots := 2, locals := 28 } : Room).cells ({ frames := 2, cells := 1, slots := 2, locals := 28 } : Room).slots) → P U o) → own_Go p.tables e below P (s₁.setTop (mkF m 0 #[oR a1, .unset, .unset, .unset, .unset] [])) from own_go (fun _ k => castTop (ef_rof_3 m a1) k) (own_H _ (fun U o h1 h2 h3 => ⟨h1, h2, h3⟩))
  intro P hP
  have lt_va : @LT.lt Nat _ va h0.size := pr3.lt
  have lt_e_1 : @LT.lt Nat _ e_1 h0.size := pr5.lt
  have lt_e_2 : @LT.lt Nat _ e_2 h0.size := pr6.lt
  have lt_t_1 : @LT.lt Nat _ t_1 h0.size := pr8.lt
  have lt_tv_1 : @LT.lt Nat _ tv_1 h0.size := pr11.lt
  have lt_t_2 : @LT.lt Nat _ t_2 h0.size := pr13.lt
  have lt_tv_2 : @LT.lt Nat _ tv_2 h0.size := pr16.lt
  have lt_a1 : @LT.lt Nat _ a1 h0.size := pr17.lt
  have lt_ax : @LT.lt Nat _ ax h0.size := pr20.lt
  obtain ⟨_, _, ⟨T1, LC1, kC1, nC1⟩, -, X1, ⟨Lc1, hQ1, lq1, yq1, zq1⟩, st1⟩ := Jvm.LawKit.callS X0 hx (y := oM9) hown (mvT hZ (own_hw hw 41)) (mvT hZ (own_hw hw 42)) (mvT hZ (own_hw hw 39)) (mvT hZ (own_hw hw 43)) (by decide) (backOf (W := 0) (rm10 l Z a0 hw [] va kva e_1 e_2 h0 n0 (by omega) pr2 pr3 pr4) hZ (own_hw hw 43) (own_hw hw 39) (by decide) (by decide)) (g := (mkF m 0 #[oR a1, .unset, .unset, .unset, .unset] [])) rfl (by rw [hml]; rfl) (argsL := []) (rest := []) (lenOf pd_7 rfl) rfl (by show 2 * 0 + _ ≤ _; exact Nat.le_of_eq rfl) (hb hby d9_0) (fun _ _ => ⟨rfl, e0, (by decide : 0 + 1 ≤ _), (by decide : 0 + 2 ≤ _)⟩)
  dsimp only [Pt.U, Pt.locs, Pt.cells, Pt.slots] at X1 lq1 yq1 zq1 st1 hQ1
  subst lq1 yq1 zq1
  obtain ⟨h1, e1⟩ : ∃ z, T1.heap = z := ⟨_, rfl⟩
  rw [e1] at hQ1
  obtain ⟨r_1, rfl, Nq1, K1, g1_0, g1_1⟩ := hQ1
  have sz1 : h0.size ≤ h1.size := K1.1
  have N1 := Fr.app N0 Nq1
  have lt1_1 : @LT.lt Nat _ r_1 h1.size := g1_0.lt
  refine own_go (st' := T1.setTop (mkF m 3 #[oR a1, .unset, .unset, .unset, .unset] [(.ref r_1)])) (fun t k => st1 t k) ?_
  refine own_go (st' := T1.setTop (mkF m 4 #[oR a1, oR r_1, .unset, .unset, .unset] [])) (fun _ k => XS.astoreN X1.here hx rfl (hb hby d9_3) rfl rfl (l' := #[oR a1, oR r_1, .unset, .unset, .unset]) rfl k) ?_
  refine own_go (st' := T1.setTop (mkF m 5 #[oR a1, oR r_1, .unset, .unset, .unset] [(.ref r_1)])) (fun _ k => XS.aloadN X1.here hx rfl (hb hby d9_4) rfl rfl k) ?_
  obtain ⟨cl2, Ar2, -, S2, M2, -, -⟩ := id g1_0
  refine own_go (st' := T1.setTop (mkF m 6 #[oR a1, oR r_1, .unset, .unset, .unset] [(.int (2 : Int32))])) (fun t k => X1.arraylength hx (by rw [e1]; exact Ar2.1) (State.isArrayOf_alike hZ.alike Ar2.2.1) (g := (mkF m 5 #[oR a1, oR r_1, .unset, .unset, .unset] [(.ref r_1)])) rfl rfl (hb hby d9_5) t (by rw [len_of S2 M2]; exact k)) ?_
  refine own_go (st' := T1.setTop (mkF m 7 #[oR a1, oR r_1, oi 2, .unset, .unset] [])) (fun _ k => XS.istoreN X1.here hx rfl (hb hby d9_6) rfl (l' := #[oR a1, oR r_1, oi 2, .unset, .unset]) rfl k) ?_
  refine own_go (st' := T1.setTop (mkF m 8 #[oR a1, oR r_1, oi 2, .unset, .unset] [(.int (0 : Int32))])) (fun _ k => XS.iconst X1.here hx rfl (hb hby d9_7) k) ?_
  refine own_go (st' := T1.setTop (mkF m 9 #[oR a1, oR r_1, oi 2, oi 0, .unset] [])) (fun _ k => XS.istoreN X1.here hx rfl (hb hby d9_8) rfl (l' := #[oR a1, oR r_1, oi 2, oi 0, .unset]) rfl k) ?_
  refine own_go (st' := T1.setTop (mkF m 10 #[oR a1, oR r_1, oi 2, oi 0, .unset] [(.int (0 : Int32))])) (fun _ k => XS.iloadN X1.here hx rfl (hb hby d9_9) rfl k) ?_
  refine own_go (st' := T1.setTop (mkF m 11 #[oR a1, oR r_1, oi 2, oi 0, .unset] [(.int (2 : Int32)), (.int (0 : Int32))])) (fun _ k => XS.iloadN X1.here hx rfl (hb hby d9_10) rfl k) ?_
  have hc3 : (0 : Int32) < (2 : Int32) := by decide
  refine own_go (st' := T1.setTop (mkF m 14 #[oR a1, oR r_1, oi 2, oi 0, .unset] [])) (fun _ k => XS.icmpNo X1.here hx rfl (hb hby d9_11) rfl (tlt hc3).2.1 k) ?_
  refine own_go (st' := T1.setTop (mkF m 15 #[oR a1, oR r_1, oi 2, oi 0, .unset] [(.ref r_1)])) (fun _ k => XS.aloadN X1.here hx rfl (hb hby d9_14) rfl rfl k) ?_
  refine own_go (st' := T1.setTop (mkF m 16 #[oR a1, oR r_1, oi 2, oi 0, .unset] [(.int (0 : Int32)), (.ref r_1)])) (fun _ k => XS.iloadN X1.here hx rfl (hb hby d9_15) rfl k) ?_
  obtain ⟨cl4, Ar4, -, S4, M4, H4, -⟩ := id g1_0
  have hin4 : ¬ ((0 : Int32) < 0 ∨ cl4.slots.size ≤ ((0 : Int32)).toNatClampNeg) := (inb_of S4 ⟨by decide, by decide⟩)
  have hat4 : cl4.slots[((0 : Int32)).toNatClampNeg]? = some (.ref e_1) := (H4.at hin4 rfl)
  refine own_go (st' := T1.setTop (mkF m 17 #[oR a1, oR r_1, oi 2, oi 0, .unset] [(.ref e_1)])) (X1.aaload hx (j := (0 : Int32)) (v := (.ref e_1)) (by rw [e1]; exact Ar4.1) (State.isArrayOf_alike hZ.alike Ar4.2.1) rfl Ar4.2.2 hin4 hat4 (g := (mkF m 16 #[oR a1, oR r_1, oi 2, oi 0, .unset] [(.int (0 : Int32)), (.ref r_1)])) rfl rfl (hb hby d9_16)) ?_
  refine own_go (st' := T1.setTop (mkF m 19 #[oR a1, oR r_1, oi 2, oi 0, oR e_1] [])) (fun _ k => XS.astore X1.here hx rfl (hb hby d9_17) rfl rfl (l' := #[oR a1, oR r_1, oi 2, oi 0, oR e_1]) rfl k) ?_
  refine own_go (st' := T1.setTop (mkF m 21 #[oR a1, oR r_1, oi 2, oi 0, oR e_1] [(.ref e_1)])) (fun _ k => XS.aload X1.here hx rfl (hb hby d9_19) rfl rfl k) ?_
  have c5 : Fld Z h1 e_1 oS1 "m_sText" oS2 (.ref t_1) := (pr7.keep K1 nin0)
  obtain ⟨T6, X6, e6, st6⟩ := getF X1 hx hZ hown (host := "") (Or.inl (own_hw hw 58)) Via.refl e1 c5 (g := (mkF m 21 #[oR a1, oR r_1, oi 2, oi 0, oR e_1] [(.ref e_1)])) rfl rfl (hb hby d9_21)
  refine own_go (st' := T6.setTop (mkF m 24 #[oR a1, oR r_1, oi 2, oi 0, oR e_1] [(.ref t_1)])) (st6) ?_
  refine own_go (st' := T6.setTop (mkF m 25 #[oR a1, oR r_1, oi 2, oi 0, oR e_1] [(.ref a1), (.ref t_1)])) (fun _ k => XS.aloadN X6.here hx rfl (hb hby d9_24) rfl rfl k) ?_
  have c8 : Sta Z h1 oS0 oS3 "Z" (.int zc) := (own_sta_keep pr1 K1 all0)
  have c9 : Exa Z h1 t_1 oS0 := (pr8.keep K1)
  have c10 : Fld Z h1 t_1 oS0 "value" "[B" (.ref tv_1) := (pr9.keep K1 nin0)
  have c11 : Fld Z h1 t_1 oS0 "coder" "B" (.int (0 : Int32)) := (pr10.keep K1 nin0)
  have c12 : Exa Z h1 a1 oS0 := (pr17.keep K1)
  have c13 : Fld Z h1 a1 oS0 "value" "[B" (.ref ax) := (pr18.keep K1 nin0)
  have c14 : Fld Z h1 a1 oS0 "coder" "B" (.int (0 : Int32)) := (pr19.keep K1 nin0)
  have c15 : Arv Z h1 tv_1 tk_1 .byte (3 : Int32) [(.int (49 : Int32)), (.int (46 : Int32)), (.int (48 : Int32))] (.int (0 : Int32)) := (pr11.keep K1 nin0)
  have c16 : Arv Z h1 ax ka .byte (3 : Int32) [(.int w0), (.int w1), (.int w2)] (.int (0 : Int32)) := (pr20.keep K1 nin0)
  obtain ⟨cq7, kq7, q7a, q7b, q7c⟩ := isOf hZ e6 c9
  obtain ⟨_, _, ⟨T7, LC7, kC7, nC7⟩, -, X7, ⟨Lc7, hQ7, lq7, yq7, zq7⟩, st7⟩ := X6.virtualBack hx (y := oM0) (z := oM0) hown (mvT hZ (own_hw hw 60)) (mvT hZ (own_hw hw 61)) (notFace_of_selects (args := #[]) (mvT hZ (own_hw hw 63))) (mvT hZ (own_hw hw 63)) (mvT hZ (own_hw hw 62)) (by decide) (backOf (W := 0) (rse_33 l Z a0 hw [] t_1 a1 zc tv_1 tk_1 ax ka (49 : Int32) (46 : Int32) (48 : Int32) w0 w1 w2 h1 n0 (by omega) c8 (by assumption) (own_ne (by omega)) c9 c10 c11 c12 c13 c14 c15 c16) hZ (own_hw hw 64) (own_hw hw 9) (by decide) (by decide)) q7a q7c (g := (mkF m 25 #[oR a1, oR r_1, oi 2, oi 0, oR e_1] [(.ref a1), (.ref t_1)])) rfl (by rw [hml]; rfl) (Steps.refl _) (argsL := [(.ref a1)]) (rest := []) (lenOf pd_8 rfl) rfl (by show 2 * 0 + _ ≤ _; exact Nat.le_of_eq rfl) (hb hby d9_25) (fun _ _ => ⟨rfl, e6, (by decide : 1 + 0 ≤ _), (by decide : 2 + 0 ≤ _)⟩)
  dsimp only [Pt.U, Pt.locs, Pt.cells, Pt.slots] at X7 lq7 yq7 zq7 st7 hQ7
  subst lq7 yq7 zq7
  obtain ⟨rfl, Nq7, eq7⟩ := hQ7
  have N7 := Fr.app N1 Nq7
  refine own_go (st' := T7.setTop (mkF m 28 #[oR a1, oR r_1, oi 2, oi 0, oR e_1] [(.int (own_eq3 (49 : Int32) (46 : Int32) (48 : Int32) w0 w1 w2))])) (fun _ k => st7.trans k) ?_
  by_cases hc17 : (own_eq3 (49 : Int32) (46 : Int32) (48 : Int32) w0 w1 w2) = (0 : Int32)
  · --
    refine own_go (st' := T7.setTop (mkF m 34 #[oR a1, oR r_1, oi 2, oi 0, oR e_1] [])) (fun _ k => XS.ifYes X7.here hx rfl (pc0 := 28) (pc' := 34) rfl (hb hby d9_28) rfl ((if0 _ _).trans (teq hc17).1) (by decide) (by decide) k) ?_
    refine own_go (st' := T7.setTop (mkF m 37 #[oR a1, oR r_1, oi 2, oi 1, oR e_1] [])) (fun _ k => XS.iinc X7.here hx rfl (hb hby d9_34) rfl (l' := #[oR a1, oR r_1, oi 2, oi 1, oR e_1]) (by rw [show ((0 : Int32) + Int32.ofInt 1) = (1 : Int32) by decide]; rfl) k) ?_
    refine own_go (st' := T7.setTop (mkF m 9 #[oR a1, oR r_1, oi 2, oi 1, oR e_1] [])) (fun _ k => XS.goto X7.here hx rfl (pc0 := 37) (pc' := 9) rfl (hb hby d9_37) (by decide) (by decide) k) ?_
    refine own_go (st' := T7.setTop (mkF m 10 #[oR a1, oR r_1, oi 2, oi 1, oR e_1] [(.int (1 : Int32))])) (fun _ k => XS.iloadN X7.here hx rfl (hb hby d9_9) rfl k) ?_
    refine own_go (st' := T7.setTop (mkF m 11 #[oR a1, oR r_1, oi 2, oi 1, oR e_1] [(.int (2 : Int32)), (.int (1 : Int32))])) (fun _ k => XS.iloadN X7.here hx rfl (hb hby d9_10) rfl k) ?_
    have hc18 : (1 : Int32) < (2 : Int32) := by decide
    refine own_go (st' := T7.setTop (mkF m 14 #[oR a1, oR r_1, oi 2, oi 1, oR e_1] [])) (fun _ k => XS.icmpNo X7.here hx rfl (hb hby d9_11) rfl (tlt hc18).2.1 k) ?_
    refine own_go (st' := T7.setTop (mkF m 15 #[oR a1, oR r_1, oi 2, oi 1, oR e_1] [(.ref r_1)])) (fun _ k => XS.aloadN X7.here hx rfl (hb hby d9_14) rfl rfl k) ?_
    refine own_go (st' := T7.setTop (mkF m 16 #[oR a1, oR r_1, oi 2, oi 1, oR e_1] [(.int (1 : Int32)), (.ref r_1)])) (fun _ k => XS.iloadN X7.here hx rfl (hb hby d9_15) rfl k) ?_
    obtain ⟨cl19, Ar19, -, S19, M19, H19, -⟩ := id g1_0
    have hin19 : ¬ ((1 : Int32) < 0 ∨ cl19.slots.size ≤ ((1 : Int32)).toNatClampNeg) := (inb_of S19 ⟨by decide, by decide⟩)
    have hat19 : cl19.slots[((1 : Int32)).toNatClampNeg]? = some (.ref e_2) := (H19.at hin19 rfl)
    refine own_go (st' := T7.setTop (mkF m 17 #[oR a1, oR r_1, oi 2, oi 1, oR e_1] [(.ref e_2)])) (X7.aaload hx (j := (1 : Int32)) (v := (.ref e_2)) (by rw [eq7]; exact Ar19.1) (State.isArrayOf_alike hZ.alike Ar19.2.1) rfl Ar19.2.2 hin19 hat19 (g := (mkF m 16 #[oR a1, oR r_1, oi 2, oi 1, oR e_1] [(.int (1 : Int32)), (.ref r_1)])) rfl rfl (hb hby d9_16)) ?_
    refine own_go (st' := T7.setTop (mkF m 19 #[oR a1, oR r_1, oi 2, oi 1, oR e_2] [])) (fun _ k => XS.astore X7.here hx rfl (hb hby d9_17) rfl rfl (l' := #[oR a1, oR r_1, oi 2, oi 1, oR e_2]) rfl k) ?_
    refine own_go (st' := T7.setTop (mkF m 21 #[oR a1, oR r_1, oi 2, oi 1, oR e_2] [(.ref e_2)])) (fun _ k => XS.aload X7.here hx rfl (hb hby d9_19) rfl rfl k) ?_
    have c20 : Fld Z h1 e_2 oS1 "m_sText" oS2 (.ref t_2) := (pr12.keep K1 nin0)
    obtain ⟨T21, X21, e21, st21⟩ := getF X7 hx hZ hown (host := "") (Or.inl (own_hw hw 58)) Via.refl eq7 c20 (g := (mkF m 21 #[oR a1, oR r_1, oi 2, oi 1, oR e_2] [(.ref e_2)])) rfl rfl (hb hby d9_21)
    refine own_go (st' := T21.setTop (mkF m 24 #[oR a1, oR r_1, oi 2, oi 1, oR e_2] [(.ref t_2)])) (st21) ?_
    refine own_go (st' := T21.setTop (mkF m 25 #[oR a1, oR r_1, oi 2, oi 1, oR e_2] [(.ref a1), (.ref t_2)])) (fun _ k => XS.aloadN X21.here hx rfl (hb hby d9_24) rfl rfl k) ?_
    have c23 : Exa Z h1 t_2 oS0 := (pr13.keep K1)
    have c24 : Fld Z h1 t_2 oS0 "value" "[B" (.ref tv_2) := (pr14.keep K1 nin0)
    have c25 : Fld Z h1 t_2 oS0 "coder" "B" (.int (0 : Int32)) := (pr15.keep K1 nin0)
    have c26 : Arv Z h1 tv_2 tk_2 .byte (3 : Int32) [(.int (50 : Int32)), (.int (46 : Int32)), (.int (48 : Int32))] (.int (0 : Int32)) := (pr16.keep K1 nin0)
    obtain ⟨cq22, kq22, q22a, q22b, q22c⟩ := isOf hZ e21 c23
    obtain ⟨_, _, ⟨T22, LC22, kC22, nC22⟩, -, X22, ⟨Lc22, hQ22, lq22, yq22, zq22⟩, st22⟩ := X21.virtualBack hx (y := oM0) (z := oM0) hown (mvT hZ (own_hw hw 60)) (mvT hZ (own_hw hw 61)) (notFace_of_selects (args := #[]) (mvT hZ (own_hw hw 63))) (mvT hZ (own_hw hw 63)) (mvT hZ (own_hw hw 62)) (by decide) (backOf (W := 0) (rse_33 l Z a0 hw [] t_2 a1 zc tv_2 tk_2 ax ka (50 : Int32) (46 : Int32) (48 : Int32) w0 w1 w2 h1 n0 (by omega) c8 (by assumption) (own_ne (by omega)) c23 c24 c25 c12 c13 c14 c26 c16) hZ (own_hw hw 64) (own_hw hw 9) (by decide) (by decide)) q22a q22c (g := (mkF m 25 #[oR a1, oR r_1, oi 2, oi 1, oR e_2] [(.ref a1), (.ref t_2)])) rfl (by rw [hml]; rfl) (Steps.refl _) (argsL := [(.ref a1)]) (rest := []) (lenOf pd_8 rfl) rfl (by show 2 * 0 + _ ≤ _; exact Nat.le_of_eq rfl) (hb hby d9_25) (fun _ _ => ⟨rfl, e21, (by decide : 1 + 0 ≤ _), (by decide : 2 + 0 ≤ _)⟩)
    dsimp only [Pt.U, Pt.locs, Pt.cells, Pt.slots] at X22 lq22 yq22 zq22 st22 hQ22
    subst lq22 yq22 zq22
    obtain ⟨rfl, Nq22, eq22⟩ := hQ22
    have N22 := Fr.app N7 Nq22
    refine own_go (st' := T22.setTop (mkF m 28 #[oR a1, oR r_1, oi 2, oi 1, oR e_2] [(.int (own_eq3 (50 : Int32) (46 : Int32) (48 : Int32) w0 w1 w2))])) (fun _ k => st22.trans k) ?_
    by_cases hc27 : (own_eq3 (50 : Int32) (46 : Int32) (48 : Int32) w0 w1 w2) = (0 : Int32)
    · --
      refine own_go (st' := T22.setTop (mkF m 34 #[oR a1, oR r_1, oi 2, oi 1, oR e_2] [])) (fun _ k => XS.ifYes X22.here hx rfl (pc0 := 28) (pc' := 34) rfl (hb hby d9_28) rfl ((if0 _ _).trans (teq hc27).1) (by decide) (by decide) k) ?_
      refine own_go (st' := T22.setTop (mkF m 37 #[oR a1, oR r_1, oi 2, oi 2, oR e_2] [])) (fun _ k => XS.iinc X22.here hx rfl (hb hby d9_34) rfl (l' := #[oR a1, oR r_1, oi 2, oi 2, oR e_2]) (by rw [show ((1 : Int32) + Int32.ofInt 1) = (2 : Int32) by decide]; rfl) k) ?_
      refine own_go (st' := T22.setTop (mkF m 9 #[oR a1, oR r_1, oi 2, oi 2, oR e_2] [])) (fun _ k => XS.goto X22.here hx rfl (pc0 := 37) (pc' := 9) rfl (hb hby d9_37) (by decide) (by decide) k) ?_
      refine own_go (st' := T22.setTop (mkF m 10 #[oR a1, oR r_1, oi 2, oi 2, oR e_2] [(.int (2 : Int32))])) (fun _ k => XS.iloadN X22.here hx rfl (hb hby d9_9) rfl k) ?_
      refine own_go (st' := T22.setTop (mkF m 11 #[oR a1, oR r_1, oi 2, oi 2, oR e_2] [(.int (2 : Int32)), (.int (2 : Int32))])) (fun _ k => XS.iloadN X22.here hx rfl (hb hby d9_10) rfl k) ?_
      have hc28 : ¬ ((2 : Int32) < (2 : Int32)) := by decide
      refine own_go (st' := T22.setTop (mkF m 40 #[oR a1, oR r_1, oi 2, oi 2, oR e_2] [])) (fun _ k => XS.icmpYes X22.here hx rfl (pc0 := 11) (pc' := 40) rfl (hb hby d9_11) rfl (flt hc28).2.1 (by decide) (by decide) k) ?_
      refine own_go (st' := T22.setTop (mkF m 41 #[oR a1, oR r_1, oi 2, oi 2, oR e_2] [.null])) (fun _ k => XS.aconstNull X22.here hx rfl (hb hby d9_40) k) ?_
      obtain ⟨fs, hr, hrun, hended, hW, hsame⟩ := X22.leave (v := some .null) (fun h => by rw [Bd.returns] at h; cases h)
      refine ⟨_, _, ?_, hP _ _ hrun hended ⟨_, _, rfl, ?_, ⟨_, rfl⟩, hW, hsame.mono (by decide) (by decide)⟩⟩
      · exact retOut X22 hx Bd.returns rfl (Or.inr (Or.inr (Or.inr (Or.inr ⟨rfl, rfl, rfl⟩)))) (hb hby d9_41) hr
      · show Qrof_3 Z va kva e_1 e_2 t_1 tv_1 tk_1 t_2 tv_2 tk_2 a1 ax ka w0 w1 w2 zc h0 n0 _ T22.heap _
        rw [eq22]
        exact ⟨(by unfold own_of; rw [if_pos hc17, if_pos hc27]), N22, ((Keep.refl h0 []).trans K1 all0)⟩
    · --
      refine own_go (st' := T22.setTop (mkF m 31 #[oR a1, oR r_1, oi 2, oi 1, oR e_2] [])) (fun _ k => XS.ifNo X22.here hx rfl (hb hby d9_28) rfl ((if0 _ _).trans (feq hc27).1) k) ?_
      refine own_go (st' := T22.setTop (mkF m 33 #[oR a1, oR r_1, oi 2, oi 1, oR e_2] [(.ref e_2)])) (fun _ k => XS.aload X22.here hx rfl (hb hby d9_31) rfl rfl k) ?_
      obtain ⟨fs, hr, hrun, hended, hW, hsame⟩ := X22.leave (v := some (.ref e_2)) (fun h => by rw [Bd.returns] at h; cases h)
      refine ⟨_, _, ?_, hP _ _ hrun hended ⟨_, _, rfl, ?_, ⟨_, rfl⟩, hW, hsame.mono (by decide) (by decide)⟩⟩
      · exact retOut X22 hx Bd.returns rfl (Or.inr (Or.inr (Or.inr (Or.inr ⟨rfl, rfl, rfl⟩)))) (hb hby d9_33) hr
      · show Qrof_3 Z va kva e_1 e_2 t_1 tv_1 tk_1 t_2 tv_2 tk_2 a1 ax ka w0 w1 w2 zc h0 n0 _ T22.heap _
        rw [eq22]
        exact ⟨(by unfold own_of; rw [if_pos hc17, if_neg hc27]), N22, ((Keep.refl h0 []).trans K1 all0)⟩
  · --
    refine own_go (st' := T7.setTop (mkF m 31 #[oR a1, oR r_1, oi 2, oi 0, oR e_1] [])) (fun _ k => XS.ifNo X7.here hx rfl (hb hby d9_28) rfl ((if0 _ _).trans (feq hc17).1) k) ?_
    refine own_go (st' := T7.setTop (mkF m 33 #[oR a1, oR r_1, oi 2, oi 0, oR e_1] [(.ref e_1)])) (fun _ k => XS.aload X7.here hx rfl (hb hby d9_31) rfl rfl k) ?_
    obtain ⟨fs, hr, hrun, hended, hW, hsame⟩ := X7.leave (v := some (.ref e_1)) (fun h => by rw [Bd.returns] at h; cases h)
    refine ⟨_, _, ?_, hP _ _ hrun hended ⟨_, _, rfl, ?_, ⟨_, rfl⟩, hW, hsame.mono (by decide) (by decide)⟩⟩
    · exact retOut X7 hx Bd.returns rfl (Or.inr (Or.inr (Or.inr (Or.inr ⟨rfl, rfl, rfl⟩)))) (hb hby d9_33) hr
    · show Qrof_3 Z va kva e_1 e_2 t_1 tv_1 tk_1 t_2 tv_2 tk_2 a1 ax ka w0 w1 w2 zc h0 n0 _ T7.heap _
      rw [eq7]
      exact ⟨(by unfold own_of; rw [if_neg hc17]), N7, ((Keep.refl h0 []).trans K1 all0)⟩
theorem ef_rof_4 (m : MethodId) (x0 : Addr) : entryFrame m #[(.ref x0)] 5 = mkF m 0 #[.val (.ref x0), .unset, .unset, .unset, .unset] [] := by first | (simp [entryFrame, mkF, argsToLocals, Value.category]; done) | rfl
def Qrof_4 (Z : State) (va : Addr) (kva : ClassId) (e_1 : Addr) (e_2 : Addr) (t_1 : Addr) (tv_1 : Addr) (tk_1 : ClassId) (t_2 : Addr) (tv_2 : Addr) (tk_2 : ClassId) (a1 : Addr) (ax : Addr) (ka : ClassId) (w0 : Int32) (w1 : Int32) (w2 : Int32) (w3 : Int32) (zc : Int32) (h0 : Heap) (n0 : Nat) (v : Option Value) (h : Heap) (L : List Loc) : Prop := (v = some .null) ∧ (Fr n0 L) ∧ (Keep h0 h [])
set_option maxRecDepth 65536 in
set_option maxHeartbeats 40000000 in
theorem rof_4 (l : Launch) (Z : State) (a0 : Array Value) (hw : ∀ d ∈ tables_1, d.before a0 Z = true) (ws : List Jvm.Cond) (va : Addr) (kva : ClassId) (e_1 : Addr) (e_2 : Addr) (t_1 : Addr) (tv_1 : Addr) (tk_1 : ClassId) (t_2 : Addr) (tv_2 : Addr) (tk_2 : ClassId) (a1 : Addr) (ax : Addr) (ka : ClassId) (w0 : Int32) (w1 : Int32) (w2 : Int32) (w3 : Int32) (zc : Int32) (h0 : Heap) (n0 : Nat) (Z0 : n0 ≤ h0.size) (pr1 : Sta Z h0 oS0 oS3 "Z" (.int zc)) (hzc : ¬ zc = (0 : Int32)) (pr2 : Sta Z h0 oS1 "$VALUES" oS4 (.ref va)) (pr3 : Arv Z h0 va kva (.object oS1) (2 : Int32) [(.ref e_1), (.ref e_2)] .null) (pr4 : Exa Z h0 va oS4) (pr5 : Exa Z h0 e_1 oS1) (pr6 : Exa Z h0 e_2 oS1) (pr7 : Fld Z h0 e_1 oS1 "m_sText" oS2 (.ref t_1)) (pr8 : Exa Z h0 t_1 oS0) (pr9 : Fld Z h0 t_1 oS0 "value" "[B" (.ref tv_1)) (pr10 : Fld Z h0 t_1 oS0 "coder" "B" (.int (0 : Int32))) (pr11 : Arv Z h0 tv_1 tk_1 .byte (3 : Int32) [(.int (49 : Int32)), (.int (46 : Int32)), (.int (48 : Int32))] (.int (0 : Int32))) (pr12 : Fld Z h0 e_2 oS1 "m_sText" oS2 (.ref t_2)) (pr13 : Exa Z h0 t_2 oS0) (pr14 : Fld Z h0 t_2 oS0 "value" "[B" (.ref tv_2)) (pr15 : Fld Z h0 t_2 oS0 "coder" "B" (.int (0 : Int32))) (pr16 : Arv Z h0 tv_2 tk_2 .byte (3 : Int32) [(.int (50 : Int32)), (.int (46 : Int32)), (.int (48 : Int32))] (.int (0 : Int32))) (pr17 : Exa Z h0 a1 oS0) (pr18 : Fld Z h0 a1 oS0 "value" "[B" (.ref ax)) (pr19 : Fld Z h0 a1 oS0 "coder" "B" (.int (0 : Int32))) (pr20 : Arv Z h0 ax ka .byte (4 : Int32) [(.int w0), (.int w1), (.int w2), (.int w3)] (.int (0 : Int32))) (pr21 : @Ne Nat t_1 a1) (pr22 : @Ne Nat t_2 a1) :
    MetFree l oM1 (head1 (Jvm.Cond.code oM1 prog_60_method_5_code 5 (some (.object oS1)) :: ws) ({ frames := 2, cells := 1, slots := 2, locals := 28 } : Room)) (fun a U => a = #[(.ref a1)] ∧ Z.Warmed39 U.vm ∧ U.heap = h0) (fun _ _ _ _ _ => True) (fun _ U o U' => ∃ v L, o = .returned v ∧ Qrof_4 Z va kva e_1 e_2 t_1 tv_1 tk_1 t_2 tv_2 tk_2 a1 ax ka w0 w1 w2 w3 zc h0 n0 v U'.heap L ∧ FrameEnd U o U' L ({ frames := 2, cells := 1, slots := 2, locals := 28 } : Room).cells ({ frames := 2, cells := 1, slots := 2, locals := 28 } : Room).slots) := by
  refine MetFree.of_bodySF (plainFor_of_name pn_9) hisR ?_
  intro p e s m args below meth c s₁ Bd hml0 hP0 hK
  obtain ⟨rfl, hZ, hh⟩ := hP0
  have hx := Bd.exec
  have hby := Bd.bytes
  have hml : c.maxLocals = 5 := hml0
  have hown : s.vm.findClass oS1 = some m.cls := findClass_of_methodNamed Bd.named
  have hnm := (name_of_methodNamed Bd.named Bd.method).1
  have X0 : Stand p l e ({ frames := 2, cells := 1, slots := 2, locals := 28 } : Room) s m #[(.ref a1)] below meth c s₁ [] 0 0 := Stand.of_body Bd
  have e0 : s₁.heap = h0 := by rw [← hh, Bd.state]; rfl
  have N0 := Fr.nil n0
  suffices own_H : ∀ (P : State → Outcome → Prop), (∀ U o, U.status = .running → Ended U below o → (∃ v L, o = .returned v ∧ Qrof_4 Z va kva e_1 e_2 t_1 tv_1 tk_1 t_2 tv_2 tk_2 a1 ax ka w0 w1 w2 w3 zc h0 n0 v U.heap L ∧ FrameEnd s o U L ({ frames := 2, cells := 1, slots := 2, locals := 28 } : Room).cells ({ frames := 2, cells := 1, slots := 2, locals := 28 } : Room).slots) → P U o) → own_Go p.tables e below P (s₁.setTop (mkF m 0 #[oR a1, .unset, .unset, .unset, .unset] [])) from own_go (fun _ k => castTop (ef_rof_4 m a1) k) (own_H _ (fun U o h1 h2 h3 => ⟨h1, h2, h3⟩))
  intro P hP
  have lt_va : @LT.lt Nat _ va h0.size := pr3.lt
  have lt_e_1 : @LT.lt Nat _ e_1 h0.size := pr5.lt
  have lt_e_2 : @LT.lt Nat _ e_2 h0.size := pr6.lt
  have lt_t_1 : @LT.lt Nat _ t_1 h0.size := pr8.lt
  have lt_tv_1 : @LT.lt Nat _ tv_1 h0.size := pr11.lt
  have lt_t_2 : @LT.lt Nat _ t_2 h0.size := pr13.lt
  have lt_tv_2 : @LT.lt Nat _ tv_2 h0.size := pr16.lt
  have lt_a1 : @LT.lt Nat _ a1 h0.size := pr17.lt
  have lt_ax : @LT.lt Nat _ ax h0.size := pr20.lt
  obtain ⟨_, _, ⟨T1, LC1, kC1, nC1⟩, -, X1, ⟨Lc1, hQ1, lq1, yq1, zq1⟩, st1⟩ := Jvm.LawKit.callS X0 hx (y := oM9) hown (mvT hZ (own_hw hw 41)) (mvT hZ (own_hw hw 42)) (mvT hZ (own_hw hw 39)) (mvT hZ (own_hw hw 43)) (by decide) (backOf (W := 0) (rm10 l Z a0 hw [] va kva e_1 e_2 h0 n0 (by omega) pr2 pr3 pr4) hZ (own_hw hw 43) (own_hw hw 39) (by decide) (by decide)) (g := (mkF m 0 #[oR a1, .unset, .unset, .unset, .unset] [])) rfl (by rw [hml]; rfl) (argsL := []) (rest := []) (lenOf pd_7 rfl) rfl (by show 2 * 0 + _ ≤ _; exact Nat.le_of_eq rfl) (hb hby d9_0) (fun _ _ => ⟨rfl, e0, (by decide : 0 + 1 ≤ _), (by decide : 0 + 2 ≤ _)⟩)
  dsimp only [Pt.U, Pt.locs, Pt.cells, Pt.slots] at X1 lq1 yq1 zq1 st1 hQ1
  subst lq1 yq1 zq1
  obtain ⟨h1, e1⟩ : ∃ z, T1.heap = z := ⟨_, rfl⟩
  rw [e1] at hQ1
  obtain ⟨r_1, rfl, Nq1, K1, g1_0, g1_1⟩ := hQ1
  have sz1 : h0.size ≤ h1.size := K1.1
  have N1 := Fr.app N0 Nq1
  have lt1_1 : @LT.lt Nat _ r_1 h1.size := g1_0.lt
  refine own_go (st' := T1.setTop (mkF m 3 #[oR a1, .unset, .unset, .unset, .unset] [(.ref r_1)])) (fun t k => st1 t k) ?_
  refine own_go (st' := T1.setTop (mkF m 4 #[oR a1, oR r_1, .unset, .unset, .unset] [])) (fun _ k => XS.astoreN X1.here hx rfl (hb hby d9_3) rfl rfl (l' := #[oR a1, oR r_1, .unset, .unset, .unset]) rfl k) ?_
  refine own_go (st' := T1.setTop (mkF m 5 #[oR a1, oR r_1, .unset, .unset, .unset] [(.ref r_1)])) (fun _ k => XS.aloadN X1.here hx rfl (hb hby d9_4) rfl rfl k) ?_
  obtain ⟨cl2, Ar2, -, S2, M2, -, -⟩ := id g1_0
  refine own_go (st' := T1.setTop (mkF m 6 #[oR a1, oR r_1, .unset, .unset, .unset] [(.int (2 : Int32))])) (fun t k => X1.arraylength hx (by rw [e1]; exact Ar2.1) (State.isArrayOf_alike hZ.alike Ar2.2.1) (g := (mkF m 5 #[oR a1, oR r_1, .unset, .unset, .unset] [(.ref r_1)])) rfl rfl (hb hby d9_5) t (by rw [len_of S2 M2]; exact k)) ?_
  refine own_go (st' := T1.setTop (mkF m 7 #[oR a1, oR r_1, oi 2, .unset, .unset] [])) (fun _ k => XS.istoreN X1.here hx rfl (hb hby d9_6) rfl (l' := #[oR a1, oR r_1, oi 2, .unset, .unset]) rfl k) ?_
  refine own_go (st' := T1.setTop (mkF m 8 #[oR a1, oR r_1, oi 2, .unset, .unset] [(.int (0 : Int32))])) (fun _ k => XS.iconst X1.here hx rfl (hb hby d9_7) k) ?_
  refine own_go (st' := T1.setTop (mkF m 9 #[oR a1, oR r_1, oi 2, oi 0, .unset] [])) (fun _ k => XS.istoreN X1.here hx rfl (hb hby d9_8) rfl (l' := #[oR a1, oR r_1, oi 2, oi 0, .unset]) rfl k) ?_
  refine own_go (st' := T1.setTop (mkF m 10 #[oR a1, oR r_1, oi 2, oi 0, .unset] [(.int (0 : Int32))])) (fun _ k => XS.iloadN X1.here hx rfl (hb hby d9_9) rfl k) ?_
  refine own_go (st' := T1.setTop (mkF m 11 #[oR a1, oR r_1, oi 2, oi 0, .unset] [(.int (2 : Int32)), (.int (0 : Int32))])) (fun _ k => XS.iloadN X1.here hx rfl (hb hby d9_10) rfl k) ?_
  have hc3 : (0 : Int32) < (2 : Int32) := by decide
  refine own_go (st' := T1.setTop (mkF m 14 #[oR a1, oR r_1, oi 2, oi 0, .unset] [])) (fun _ k => XS.icmpNo X1.here hx rfl (hb hby d9_11) rfl (tlt hc3).2.1 k) ?_
  refine own_go (st' := T1.setTop (mkF m 15 #[oR a1, oR r_1, oi 2, oi 0, .unset] [(.ref r_1)])) (fun _ k => XS.aloadN X1.here hx rfl (hb hby d9_14) rfl rfl k) ?_
  refine own_go (st' := T1.setTop (mkF m 16 #[oR a1, oR r_1, oi 2, oi 0, .unset] [(.int (0 : Int32)), (.ref r_1)])) (fun _ k => XS.iloadN X1.here hx rfl (hb hby d9_15) rfl k) ?_
  obtain ⟨cl4, Ar4, -, S4, M4, H4, -⟩ := id g1_0
  have hin4 : ¬ ((0 : Int32) < 0 ∨ cl4.slots.size ≤ ((0 : Int32)).toNatClampNeg) := (inb_of S4 ⟨by decide, by decide⟩)
  have hat4 : cl4.slots[((0 : Int32)).toNatClampNeg]? = some (.ref e_1) := (H4.at hin4 rfl)
  refine own_go (st' := T1.setTop (mkF m 17 #[oR a1, oR r_1, oi 2, oi 0, .unset] [(.ref e_1)])) (X1.aaload hx (j := (0 : Int32)) (v := (.ref e_1)) (by rw [e1]; exact Ar4.1) (State.isArrayOf_alike hZ.alike Ar4.2.1) rfl Ar4.2.2 hin4 hat4 (g := (mkF m 16 #[oR a1, oR r_1, oi 2, oi 0, .unset] [(.int (0 : Int32)), (.ref r_1)])) rfl rfl (hb hby d9_16)) ?_
  refine own_go (st' := T1.setTop (mkF m 19 #[oR a1, oR r_1, oi 2, oi 0, oR e_1] [])) (fun _ k => XS.astore X1.here hx rfl (hb hby d9_17) rfl rfl (l' := #[oR a1, oR r_1, oi 2, oi 0, oR e_1]) rfl k) ?_
  refine own_go (st' := T1.setTop (mkF m 21 #[oR a1, oR r_1, oi 2, oi 0, oR e_1] [(.ref e_1)])) (fun _ k => XS.aload X1.here hx rfl (hb hby d9_19) rfl rfl k) ?_
  have c5 : Fld Z h1 e_1 oS1 "m_sText" oS2 (.ref t_1) := (pr7.keep K1 nin0)
  obtain ⟨T6, X6, e6, st6⟩ := getF X1 hx hZ hown (host := "") (Or.inl (own_hw hw 58)) Via.refl e1 c5 (g := (mkF m 21 #[oR a1, oR r_1, oi 2, oi 0, oR e_1] [(.ref e_1)])) rfl rfl (hb hby d9_21)
  refine own_go (st' := T6.setTop (mkF m 24 #[oR a1, oR r_1, oi 2, oi 0, oR e_1] [(.ref t_1)])) (st6) ?_
  refine own_go (st' := T6.setTop (mkF m 25 #[oR a1, oR r_1, oi 2, oi 0, oR e_1] [(.ref a1), (.ref t_1)])) (fun _ k => XS.aloadN X6.here hx rfl (hb hby d9_24) rfl rfl k) ?_
  have c8 : Sta Z h1 oS0 oS3 "Z" (.int zc) := (own_sta_keep pr1 K1 all0)
  have c9 : Exa Z h1 t_1 oS0 := (pr8.keep K1)
  have c10 : Fld Z h1 t_1 oS0 "value" "[B" (.ref tv_1) := (pr9.keep K1 nin0)
  have c11 : Fld Z h1 t_1 oS0 "coder" "B" (.int (0 : Int32)) := (pr10.keep K1 nin0)
  have c12 : Exa Z h1 a1 oS0 := (pr17.keep K1)
  have c13 : Fld Z h1 a1 oS0 "value" "[B" (.ref ax) := (pr18.keep K1 nin0)
  have c14 : Fld Z h1 a1 oS0 "coder" "B" (.int (0 : Int32)) := (pr19.keep K1 nin0)
  have c15 : Arv Z h1 tv_1 tk_1 .byte (3 : Int32) [(.int (49 : Int32)), (.int (46 : Int32)), (.int (48 : Int32))] (.int (0 : Int32)) := (pr11.keep K1 nin0)
  have c16 : Arv Z h1 ax ka .byte (4 : Int32) [(.int w0), (.int w1), (.int w2), (.int w3)] (.int (0 : Int32)) := (pr20.keep K1 nin0)
  obtain ⟨cq7, kq7, q7a, q7b, q7c⟩ := isOf hZ e6 c9
  obtain ⟨_, _, ⟨T7, LC7, kC7, nC7⟩, -, X7, ⟨Lc7, hQ7, lq7, yq7, zq7⟩, st7⟩ := X6.virtualBack hx (y := oM0) (z := oM0) hown (mvT hZ (own_hw hw 60)) (mvT hZ (own_hw hw 61)) (notFace_of_selects (args := #[]) (mvT hZ (own_hw hw 63))) (mvT hZ (own_hw hw 63)) (mvT hZ (own_hw hw 62)) (by decide) (backOf (W := 0) (rse_34 l Z a0 hw [] t_1 a1 zc tv_1 tk_1 ax ka (49 : Int32) (46 : Int32) (48 : Int32) w0 w1 w2 w3 h1 n0 (by omega) c8 (by assumption) (own_ne (by omega)) c9 c10 c11 c12 c13 c14 c15 c16) hZ (own_hw hw 64) (own_hw hw 9) (by decide) (by decide)) q7a q7c (g := (mkF m 25 #[oR a1, oR r_1, oi 2, oi 0, oR e_1] [(.ref a1), (.ref t_1)])) rfl (by rw [hml]; rfl) (Steps.refl _) (argsL := [(.ref a1)]) (rest := []) (lenOf pd_8 rfl) rfl (by show 2 * 0 + _ ≤ _; exact Nat.le_of_eq rfl) (hb hby d9_25) (fun _ _ => ⟨rfl, e6, (by decide : 1 + 0 ≤ _), (by decide : 2 + 0 ≤ _)⟩)
  dsimp only [Pt.U, Pt.locs, Pt.cells, Pt.slots] at X7 lq7 yq7 zq7 st7 hQ7
  subst lq7 yq7 zq7
  obtain ⟨rfl, Nq7, eq7⟩ := hQ7
  have N7 := Fr.app N1 Nq7
  refine own_go (st' := T7.setTop (mkF m 28 #[oR a1, oR r_1, oi 2, oi 0, oR e_1] [(.int (0 : Int32))])) (fun _ k => st7.trans k) ?_
  have hc17 : (0 : Int32) = (0 : Int32) := by decide
  refine own_go (st' := T7.setTop (mkF m 34 #[oR a1, oR r_1, oi 2, oi 0, oR e_1] [])) (fun _ k => XS.ifYes X7.here hx rfl (pc0 := 28) (pc' := 34) rfl (hb hby d9_28) rfl ((if0 _ _).trans (teq hc17).1) (by decide) (by decide) k) ?_
  refine own_go (st' := T7.setTop (mkF m 37 #[oR a1, oR r_1, oi 2, oi 1, oR e_1] [])) (fun _ k => XS.iinc X7.here hx rfl (hb hby d9_34) rfl (l' := #[oR a1, oR r_1, oi 2, oi 1, oR e_1]) (by rw [show ((0 : Int32) + Int32.ofInt 1) = (1 : Int32) by decide]; rfl) k) ?_
  refine own_go (st' := T7.setTop (mkF m 9 #[oR a1, oR r_1, oi 2, oi 1, oR e_1] [])) (fun _ k => XS.goto X7.here hx rfl (pc0 := 37) (pc' := 9) rfl (hb hby d9_37) (by decide) (by decide) k) ?_
  refine own_go (st' := T7.setTop (mkF m 10 #[oR a1, oR r_1, oi 2, oi 1, oR e_1] [(.int (1 : Int32))])) (fun _ k => XS.iloadN X7.here hx rfl (hb hby d9_9) rfl k) ?_
  refine own_go (st' := T7.setTop (mkF m 11 #[oR a1, oR r_1, oi 2, oi 1, oR e_1] [(.int (2 : Int32)), (.int (1 : Int32))])) (fun _ k => XS.iloadN X7.here hx rfl (hb hby d9_10) rfl k) ?_
  have hc18 : (1 : Int32) < (2 : Int32) := by decide
  refine own_go (st' := T7.setTop (mkF m 14 #[oR a1, oR r_1, oi 2, oi 1, oR e_1] [])) (fun _ k => XS.icmpNo X7.here hx rfl (hb hby d9_11) rfl (tlt hc18).2.1 k) ?_
  refine own_go (st' := T7.setTop (mkF m 15 #[oR a1, oR r_1, oi 2, oi 1, oR e_1] [(.ref r_1)])) (fun _ k => XS.aloadN X7.here hx rfl (hb hby d9_14) rfl rfl k) ?_
  refine own_go (st' := T7.setTop (mkF m 16 #[oR a1, oR r_1, oi 2, oi 1, oR e_1] [(.int (1 : Int32)), (.ref r_1)])) (fun _ k => XS.iloadN X7.here hx rfl (hb hby d9_15) rfl k) ?_
  obtain ⟨cl19, Ar19, -, S19, M19, H19, -⟩ := id g1_0
  have hin19 : ¬ ((1 : Int32) < 0 ∨ cl19.slots.size ≤ ((1 : Int32)).toNatClampNeg) := (inb_of S19 ⟨by decide, by decide⟩)
  have hat19 : cl19.slots[((1 : Int32)).toNatClampNeg]? = some (.ref e_2) := (H19.at hin19 rfl)
  refine own_go (st' := T7.setTop (mkF m 17 #[oR a1, oR r_1, oi 2, oi 1, oR e_1] [(.ref e_2)])) (X7.aaload hx (j := (1 : Int32)) (v := (.ref e_2)) (by rw [eq7]; exact Ar19.1) (State.isArrayOf_alike hZ.alike Ar19.2.1) rfl Ar19.2.2 hin19 hat19 (g := (mkF m 16 #[oR a1, oR r_1, oi 2, oi 1, oR e_1] [(.int (1 : Int32)), (.ref r_1)])) rfl rfl (hb hby d9_16)) ?_
  refine own_go (st' := T7.setTop (mkF m 19 #[oR a1, oR r_1, oi 2, oi 1, oR e_2] [])) (fun _ k => XS.astore X7.here hx rfl (hb hby d9_17) rfl rfl (l' := #[oR a1, oR r_1, oi 2, oi 1, oR e_2]) rfl k) ?_
  refine own_go (st' := T7.setTop (mkF m 21 #[oR a1, oR r_1, oi 2, oi 1, oR e_2] [(.ref e_2)])) (fun _ k => XS.aload X7.here hx rfl (hb hby d9_19) rfl rfl k) ?_
  have c20 : Fld Z h1 e_2 oS1 "m_sText" oS2 (.ref t_2) := (pr12.keep K1 nin0)
  obtain ⟨T21, X21, e21, st21⟩ := getF X7 hx hZ hown (host := "") (Or.inl (own_hw hw 58)) Via.refl eq7 c20 (g := (mkF m 21 #[oR a1, oR r_1, oi 2, oi 1, oR e_2] [(.ref e_2)])) rfl rfl (hb hby d9_21)
  refine own_go (st' := T21.setTop (mkF m 24 #[oR a1, oR r_1, oi 2, oi 1, oR e_2] [(.ref t_2)])) (st21) ?_
  refine own_go (st' := T21.setTop (mkF m 25 #[oR a1, oR r_1, oi 2, oi 1, oR e_2] [(.ref a1), (.ref t_2)])) (fun _ k => XS.aloadN X21.here hx rfl (hb hby d9_24) rfl rfl k) ?_
  have c23 : Exa Z h1 t_2 oS0 := (pr13.keep K1)
  have c24 : Fld Z h1 t_2 oS0 "value" "[B" (.ref tv_2) := (pr14.keep K1 nin0)
  have c25 : Fld Z h1 t_2 oS0 "coder" "B" (.int (0 : Int32)) := (pr15.keep K1 nin0)
  have c26 : Arv Z h1 tv_2 tk_2 .byte (3 : Int32) [(.int (50 : Int32)), (.int (46 : Int32)), (.int (48 : Int32))] (.int (0 : Int32)) := (pr16.keep K1 nin0)
  obtain ⟨cq22, kq22, q22a, q22b, q22c⟩ := isOf hZ e21 c23
  obtain ⟨_, _, ⟨T22, LC22, kC22, nC22⟩, -, X22, ⟨Lc22, hQ22, lq22, yq22, zq22⟩, st22⟩ := X21.virtualBack hx (y := oM0) (z := oM0) hown (mvT hZ (own_hw hw 60)) (mvT hZ (own_hw hw 61)) (notFace_of_selects (args := #[]) (mvT hZ (own_hw hw 63))) (mvT hZ (own_hw hw 63)) (mvT hZ (own_hw hw 62)) (by decide) (backOf (W := 0) (rse_34 l Z a0 hw [] t_2 a1 zc tv_2 tk_2 ax ka (50 : Int32) (46 : Int32) (48 : Int32) w0 w1 w2 w3 h1 n0 (by omega) c8 (by assumption) (own_ne (by omega)) c23 c24 c25 c12 c13 c14 c26 c16) hZ (own_hw hw 64) (own_hw hw 9) (by decide) (by decide)) q22a q22c (g := (mkF m 25 #[oR a1, oR r_1, oi 2, oi 1, oR e_2] [(.ref a1), (.ref t_2)])) rfl (by rw [hml]; rfl) (Steps.refl _) (argsL := [(.ref a1)]) (rest := []) (lenOf pd_8 rfl) rfl (by show 2 * 0 + _ ≤ _; exact Nat.le_of_eq rfl) (hb hby d9_25) (fun _ _ => ⟨rfl, e21, (by decide : 1 + 0 ≤ _), (by decide : 2 + 0 ≤ _)⟩)
  dsimp only [Pt.U, Pt.locs, Pt.cells, Pt.slots] at X22 lq22 yq22 zq22 st22 hQ22
  subst lq22 yq22 zq22
  obtain ⟨rfl, Nq22, eq22⟩ := hQ22
  have N22 := Fr.app N7 Nq22
  refine own_go (st' := T22.setTop (mkF m 28 #[oR a1, oR r_1, oi 2, oi 1, oR e_2] [(.int (0 : Int32))])) (fun _ k => st22.trans k) ?_
  have hc27 : (0 : Int32) = (0 : Int32) := by decide
  refine own_go (st' := T22.setTop (mkF m 34 #[oR a1, oR r_1, oi 2, oi 1, oR e_2] [])) (fun _ k => XS.ifYes X22.here hx rfl (pc0 := 28) (pc' := 34) rfl (hb hby d9_28) rfl ((if0 _ _).trans (teq hc27).1) (by decide) (by decide) k) ?_
  refine own_go (st' := T22.setTop (mkF m 37 #[oR a1, oR r_1, oi 2, oi 2, oR e_2] [])) (fun _ k => XS.iinc X22.here hx rfl (hb hby d9_34) rfl (l' := #[oR a1, oR r_1, oi 2, oi 2, oR e_2]) (by rw [show ((1 : Int32) + Int32.ofInt 1) = (2 : Int32) by decide]; rfl) k) ?_
  refine own_go (st' := T22.setTop (mkF m 9 #[oR a1, oR r_1, oi 2, oi 2, oR e_2] [])) (fun _ k => XS.goto X22.here hx rfl (pc0 := 37) (pc' := 9) rfl (hb hby d9_37) (by decide) (by decide) k) ?_
  refine own_go (st' := T22.setTop (mkF m 10 #[oR a1, oR r_1, oi 2, oi 2, oR e_2] [(.int (2 : Int32))])) (fun _ k => XS.iloadN X22.here hx rfl (hb hby d9_9) rfl k) ?_
  refine own_go (st' := T22.setTop (mkF m 11 #[oR a1, oR r_1, oi 2, oi 2, oR e_2] [(.int (2 : Int32)), (.int (2 : Int32))])) (fun _ k => XS.iloadN X22.here hx rfl (hb hby d9_10) rfl k) ?_
  have hc28 : ¬ ((2 : Int32) < (2 : Int32)) := by decide
  refine own_go (st' := T22.setTop (mkF m 40 #[oR a1, oR r_1, oi 2, oi 2, oR e_2] [])) (fun _ k => XS.icmpYes X22.here hx rfl (pc0 := 11) (pc' := 40) rfl (hb hby d9_11) rfl (flt hc28).2.1 (by decide) (by decide) k) ?_
  refine own_go (st' := T22.setTop (mkF m 41 #[oR a1, oR r_1, oi 2, oi 2, oR e_2] [.null])) (fun _ k => XS.aconstNull X22.here hx rfl (hb hby d9_40) k) ?_
  obtain ⟨fs, hr, hrun, hended, hW, hsame⟩ := X22.leave (v := some .null) (fun h => by rw [Bd.returns] at h; cases h)
  refine ⟨_, _, ?_, hP _ _ hrun hended ⟨_, _, rfl, ?_, ⟨_, rfl⟩, hW, hsame.mono (by decide) (by decide)⟩⟩
  · exact retOut X22 hx Bd.returns rfl (Or.inr (Or.inr (Or.inr (Or.inr ⟨rfl, rfl, rfl⟩)))) (hb hby d9_41) hr
  · show Qrof_4 Z va kva e_1 e_2 t_1 tv_1 tk_1 t_2 tv_2 tk_2 a1 ax ka w0 w1 w2 w3 zc h0 n0 _ T22.heap _
    rw [eq22]
    exact ⟨rfl, N22, ((Keep.refl h0 []).trans K1 all0)⟩
theorem pd_9 : parseMethodDescriptor "(IZ)C" = some ⟨[.int, .boolean], some .char⟩ := by decide +kernel
theorem pd_10 : parseMethodDescriptor "(ICCCC)Ljava/lang/String;" = some ⟨[.int, .char, .char, .char, .char], some (.object "java/lang/String")⟩ := by decide +kernel
theorem pd_11 : parseMethodDescriptor "(Ljava/lang/String;)Lcom/example/scatterkeep/scatterkeep/protocol/Version;" = some ⟨[(.object "java/lang/String")], some (.object "com/example/scatterkeep/scatterkeep/protocol/Version")⟩ := by decide +kernel
theorem pn_0 : plainName "com/example/scatterkeep/scatterkeep/protocol/VersionOfPinLaw" = true := by first | (simp [plainName, overriddenIn]; done) | decide +kernel
theorem ef_rm0 (m : MethodId) (x0 : Int32) (x1 : Int32) (x2 : Int32) (x3 : Int32) (x4 : Int32) (x5 : Int32) : entryFrame m #[(.int x0), (.int x1), (.int x2), (.int x3), (.int x4), (.int x5)] maxLocals = mkF m 0 #[.val (.int x0), .val (.int x1), .val (.int x2), .val (.int x3), .val (.int x4), .val (.int x5), .unset, .unset, .unset, .unset, .unset, .unset, .unset, .unset, .unset] [] := by first | (simp [entryFrame, mkF, argsToLocals, Value.category, maxLocals]; done) | rfl
def Qrm0 (Z : State) (p0 : Int32) (p1 : Int32) (p2 : Int32) (p3 : Int32) (p4 : Int32) (p5 : Int32) (va : Addr) (kva : ClassId) (e_1 : Addr) (e_2 : Addr) (t_1 : Addr) (tv_1 : Addr) (tk_1 : ClassId) (t_2 : Addr) (tv_2 : Addr) (tk_2 : ClassId) (zc : Int32) (h0 : Heap) (n0 : Nat) (v : Option Value) (h : Heap) (L : List Loc) : Prop := v = some (.int 1) ∧ Fr n0 L ∧ True
set_option maxRecDepth 65536 in
set_option maxHeartbeats 40000000 in
theorem rm0 (l : Launch) (Z : State) (a0 : Array Value) (hw : ∀ d ∈ tables_1, d.before a0 Z = true) (ws : List Jvm.Cond) (p0 : Int32) (p1 : Int32) (p2 : Int32) (p3 : Int32) (p4 : Int32) (p5 : Int32) (va : Addr) (kva : ClassId) (e_1 : Addr) (e_2 : Addr) (t_1 : Addr) (tv_1 : Addr) (tk_1 : ClassId) (t_2 : Addr) (tv_2 : Addr) (tk_2 : ClassId) (zc : Int32) (h0 : Heap) (n0 : Nat) (Z0 : n0 ≤ h0.size) (pr1 : Sta Z h0 oS0 oS3 "Z" (.int zc)) (hzc : ¬ zc = (0 : Int32)) (pr2 : Sta Z h0 oS1 "$VALUES" oS4 (.ref va)) (pr3 : Arv Z h0 va kva (.object oS1) (2 : Int32) [(.ref e_1), (.ref e_2)] .null) (pr4 : Exa Z h0 va oS4) (pr5 : Sta Z h0 oS1 "V1_0" oS7 (.ref e_1)) (pr6 : Sta Z h0 oS1 "V2_0" oS7 (.ref e_2)) (pr7 : Exa Z h0 e_1 oS1) (pr8 : Exa Z h0 e_2 oS1) (pr9 : Fld Z h0 e_1 oS1 "m_sText" oS2 (.ref t_1)) (pr10 : Exa Z h0 t_1 oS0) (pr11 : Fld Z h0 t_1 oS0 "value" "[B" (.ref tv_1)) (pr12 : Fld Z h0 t_1 oS0 "coder" "B" (.int (0 : Int32))) (pr13 : Arv Z h0 tv_1 tk_1 .byte (3 : Int32) [(.int (49 : Int32)), (.int (46 : Int32)), (.int (48 : Int32))] (.int (0 : Int32))) (pr14 : Fld Z h0 e_2 oS1 "m_sText" oS2 (.ref t_2)) (pr15 : Exa Z h0 t_2 oS0) (pr16 : Fld Z h0 t_2 oS0 "value" "[B" (.ref tv_2)) (pr17 : Fld Z h0 t_2 oS0 "coder" "B" (.int (0 : Int32))) (pr18 : Arv Z h0 tv_2 tk_2 .byte (3 : Int32) [(.int (50 : Int32)), (.int (46 : Int32)), (.int (48 : Int32))] (.int (0 : Int32))) :
    MetFree l x (head1 (Jvm.Cond.code x code maxLocals ret :: ws) room_1) (fun a U => a = #[(.int p0), (.int p1), (.int p2), (.int p3), (.int p4), (.int p5)] ∧ Z.Warmed39 U.vm ∧ U.heap = h0 ∧ CHv Z own_EL U.vm h0) (fun _ _ _ _ _ => True) (fun _ U o U' => ∃ v L, o = .returned v ∧ Qrm0 Z p0 p1 p2 p3 p4 p5 va kva e_1 e_2 t_1 tv_1 tk_1 t_2 tv_2 tk_2 zc h0 n0 v U'.heap L ∧ ReturnedEndW U o U' L 24 1152) := by
  refine MetFree.of_bodySF (plainFor_of_name pn_0) hisR ?_
  intro p e s m args below meth c s₁ Bd hml0 hP0 hK
  obtain ⟨rfl, hZ, hh, hC0⟩ := hP0
  have hx := Bd.exec
  have hby := Bd.bytes
  have hml : c.maxLocals = 15 := hml0
  have hown : s.vm.findClass oS6 = some m.cls := findClass_of_methodNamed Bd.named
  have hnm := (name_of_methodNamed Bd.named Bd.method).1
  have X0 : Stand p l e room_1 (s.setVm s.vm) m #[(.int p0), (.int p1), (.int p2), (.int p3), (.int p4), (.int p5)] below meth c s₁ [] 0 0 := Stand.of_body Bd
  have hS0 : s.Since s.vm h0.size := (State.WarmedH.refl s).since _
  have hZ : Z.Warmed39 (s.setVm s.vm).vm := hZ
  have hown : (s.setVm s.vm).vm.findClass oS6 = some m.cls := hown
  have e0 : s₁.heap = h0 := by rw [← hh, Bd.state]; rfl
  have N0 := Fr.nil n0
  suffices own_H : ∀ (P : State → Outcome → Prop), (∀ U o, U.status = .running → Ended U below o → (∃ v L, o = .returned v ∧ Qrm0 Z p0 p1 p2 p3 p4 p5 va kva e_1 e_2 t_1 tv_1 tk_1 t_2 tv_2 tk_2 zc h0 n0 v U.heap L ∧ ReturnedEndW s o U L 24 1152) → P U o) → own_Go p.tables e below P (s₁.setTop (mkF m 0 #[oi p0, oi p1, oi p2, oi p3, oi p4, oi p5, .unset, .unset, .unset, .unset, .unset, .unset, .unset, .unset, .unset] [])) from own_go (fun _ k => castTop (ef_rm0 m p0 p1 p2 p3 p4 p5) k) (own_H _ (fun U o h1 h2 h3 => ⟨h1, h2, h3⟩))
  intro P hP
  have hEL : EW Z a0 own_EL := own_ew hw
  have A0 : CHr Z own_EL s.vm h0 s.vm h0 := CHr.refl hC0
  have lt_va : @LT.lt Nat _ va h0.size := pr3.lt
  have lt_e_1 : @LT.lt Nat _ e_1 h0.size := pr7.lt
  have lt_e_2 : @LT.lt Nat _ e_2 h0.size := pr8.lt
  have lt_t_1 : @LT.lt Nat _ t_1 h0.size := pr10.lt
  have lt_tv_1 : @LT.lt Nat _ tv_1 h0.size := pr13.lt
  have lt_t_2 : @LT.lt Nat _ t_2 h0.size := pr15.lt
  have lt_tv_2 : @LT.lt Nat _ tv_2 h0.size := pr18.lt
  have J14_1 : ∀ (Tj1 : State) (lj1 : List Loc) (f6 : Int32) (vj1 : Vm) (kj1 : Nat) (Xj1 : Stand p l e room_1 (s.setVm vj1) m #[(.int p0), (.int p1), (.int p2), (.int p3), (.int p4), (.int p5)] below meth c Tj1 lj1 0 0) (ej1 : Tj1.heap = h0) (Nj1 : Fr n0 lj1) (hSj1 : s.Since vj1 kj1) (hkj1 : kj1 ≤ h0.size) (hZj1 : Z.Warmed39 (s.setVm vj1).vm) (hoj1 : (s.setVm vj1).vm.findClass oS6 = some m.cls) (Aj1 : CHr Z own_EL s.vm h0 vj1 h0) (hf6 : f6 = 0 ∨ f6 = 1), own_Go p.tables e below P (Tj1.setTop (mkF m 14 #[oi p0, oi p1, oi p2, oi p3, oi p4, oi p5, .unset, .unset, .unset, .unset, .unset, .unset, .unset, .unset, .unset] [(.int f6)])) := by
    intro Tj1 lj1 f6 vj1 kj1 Xj1 ej1 Nj1 hSj1 hkj1 hZ hown Aj1 hf6
    refine own_go (st' := Tj1.setTop (mkF m 16 #[oi p0, oi p1, oi p2, oi p3, oi p4, oi p5, oi f6, .unset, .unset, .unset, .unset, .unset, .unset, .unset, .unset] [])) (fun _ k => XS.istore Xj1.here hx rfl (hb hby at_14) rfl (l' := #[oi p0, oi p1, oi p2, oi p3, oi p4, oi p5, oi f6, .unset, .unset, .unset, .unset, .unset, .unset, .unset, .unset]) rfl k) ?_
    have J27_2 : ∀ (Tj2 : State) (lj2 : List Loc) (f7 : Int32) (vj2 : Vm) (kj2 : Nat) (Xj2 : Stand p l e room_1 (s.setVm vj2) m #[(.int p0), (.int p1), (.int p2), (.int p3), (.int p4), (.int p5)] below meth c Tj2 lj2 0 0) (ej2 : Tj2.heap = h0) (Nj2 : Fr n0 lj2) (hSj2 : s.Since vj2 kj2) (hkj2 : kj2 ≤ h0.size) (hZj2 : Z.Warmed39 (s.setVm vj2).vm) (hoj2 : (s.setVm vj2).vm.findClass oS6 = some m.cls) (Aj2 : CHr Z own_EL s.vm h0 vj2 h0) , own_Go p.tables e below P (Tj2.setTop (mkF m 27 #[oi p0, oi p1, oi p2, oi p3, oi p4, oi p5, oi f6, .unset, .unset, .unset, .unset, .unset, .unset, .unset, .unset] [(.int f7)])) := by
      intro Tj2 lj2 f7 vj2 kj2 Xj2 ej2 Nj2 hSj2 hkj2 hZ hown Aj2
      refine own_go (st' := Tj2.setTop (mkF m 29 #[oi p0, oi p1, oi p2, oi p3, oi p4, oi p5, oi f6, oi f7, .unset, .unset, .unset, .unset, .unset, .unset, .unset] [])) (fun _ k => XS.istore Xj2.here hx rfl (hb hby at_27) rfl (l' := #[oi p0, oi p1, oi p2, oi p3, oi p4, oi p5, oi f6, oi f7, .unset, .unset, .unset, .unset, .unset, .unset, .unset]) rfl k) ?_
      refine own_go (st' := Tj2.setTop (mkF m 30 #[oi p0, oi p1, oi p2, oi p3, oi p4, oi p5, oi f6, oi f7, .unset, .unset, .unset, .unset, .unset, .unset, .unset] [(.int p1)])) (fun _ k => XS.iloadN Xj2.here hx rfl (hb hby at_29) rfl k) ?_
      refine own_go (st' := Tj2.setTop (mkF m 32 #[oi p0, oi p1, oi p2, oi p3, oi p4, oi p5, oi f6, oi f7, .unset, .unset, .unset, .unset, .unset, .unset, .unset] [(.int (7 : Int32)), (.int p1)])) (fun _ k => XS.bipush Xj2.here hx rfl (hb hby at_30) k) ?_
      refine own_go (st' := Tj2.setTop (mkF m 33 #[oi p0, oi p1, oi p2, oi p3, oi p4, oi p5, oi f6, oi f7, .unset, .unset, .unset, .unset, .unset, .unset, .unset] [(.int (p1 &&& (7 : Int32)))])) (fun _ k => XS.iand Xj2.here hx rfl (hb hby at_32) rfl k) ?_
      refine own_go (st' := Tj2.setTop (mkF m 34 #[oi p0, oi p1, oi p2, oi p3, oi p4, oi p5, oi f6, oi f7, .unset, .unset, .unset, .unset, .unset, .unset, .unset] [(.int (5 : Int32)), (.int (p1 &&& (7 : Int32)))])) (fun _ k => XS.iconst Xj2.here hx rfl (hb hby at_33) k) ?_
      refine own_go (st' := Tj2.setTop (mkF m 35 #[oi p0, oi p1, oi p2, oi p3, oi p4, oi p5, oi f6, oi f7, .unset, .unset, .unset, .unset, .unset, .unset, .unset] [(.int ((p1 &&& (7 : Int32)) % (5 : Int32)))])) (fun _ k => iremM Xj2 hx rfl (hb hby at_34) rfl (by decide) k) ?_
      refine own_go (st' := Tj2.setTop (mkF m 37 #[oi p0, oi p1, oi p2, oi p3, oi p4, oi p5, oi f6, oi f7, .val (.int ((p1 &&& (7 : Int32)) % (5 : Int32))), .unset, .unset, .unset, .unset, .unset, .unset] [])) (fun _ k => XS.istore Xj2.here hx rfl (hb hby at_35) rfl (l' := #[oi p0, oi p1, oi p2, oi p3, oi p4, oi p5, oi f6, oi f7, .val (.int ((p1 &&& (7 : Int32)) % (5 : Int32))), .unset, .unset, .unset, .unset, .unset, .unset]) rfl k) ?_
      refine own_go (st' := Tj2.setTop (mkF m 38 #[oi p0, oi p1, oi p2, oi p3, oi p4, oi p5, oi f6, oi f7, .val (.int ((p1 &&& (7 : Int32)) % (5 : Int32))), .unset, .unset, .unset, .unset, .unset, .unset] [(.int p2)])) (fun _ k => XS.iloadN Xj2.here hx rfl (hb hby at_37) rfl k) ?_
      refine own_go (st' := Tj2.setTop (mkF m 40 #[oi p0, oi p1, oi p2, oi p3, oi p4, oi p5, oi f6, oi f7, .val (.int ((p1 &&& (7 : Int32)) % (5 : Int32))), .unset, .unset, .unset, .unset, .unset, .unset] [(.int f7), (.int p2)])) (fun _ k => XS.iload Xj2.here hx rfl (hb hby at_38) rfl k) ?_
      obtain ⟨_, _, ⟨T3, LC3, kC3, nC3⟩, -, X3, ⟨Lc3, hQ3, lq3, yq3, zq3⟩, st3⟩ := Jvm.LawKit.callS Xj2 hx (y := oM10) hown (mvT hZ (own_hw hw 0)) (mvT hZ (own_hw hw 1)) (mvT hZ (own_hw hw 2)) (mvT hZ (own_hw hw 3)) (by decide) (backOf (W := 0) (rm1 l Z a0 hw [] p2 f7 h0 n0 (by omega) ) hZ (own_hw hw 3) (own_hw hw 2) (by decide) (by decide)) (g := (mkF m 40 #[oi p0, oi p1, oi p2, oi p3, oi p4, oi p5, oi f6, oi f7, .val (.int ((p1 &&& (7 : Int32)) % (5 : Int32))), .unset, .unset, .unset, .unset, .unset, .unset] [(.int f7), (.int p2)])) rfl (by rw [hml]; rfl) (argsL := [(.int p2), (.int f7)]) (rest := []) (lenOf pd_9 rfl) rfl (by show 2 * 0 + _ ≤ _; exact Nat.le_of_eq rfl) (hb hby at_40) (fun _ _ => ⟨rfl, ej2, (by decide : 0 + 0 ≤ _), (by decide : 0 + 0 ≤ _)⟩)
      dsimp only [Pt.U, Pt.locs, Pt.cells, Pt.slots] at X3 lq3 yq3 zq3 st3 hQ3
      subst lq3 yq3 zq3
      obtain ⟨r_3, rfl, Nq3, eq3, g3_0⟩ := hQ3
      skip
      have N3 := Fr.app Nj2 Nq3
      refine own_go (st' := T3.setTop (mkF m 43 #[oi p0, oi p1, oi p2, oi p3, oi p4, oi p5, oi f6, oi f7, .val (.int ((p1 &&& (7 : Int32)) % (5 : Int32))), .unset, .unset, .unset, .unset, .unset, .unset] [(.int r_3)])) (fun t k => st3 t k) ?_
      have hl_r_3 := g3_0
      refine own_go (st' := T3.setTop (mkF m 45 #[oi p0, oi p1, oi p2, oi p3, oi p4, oi p5, oi f6, oi f7, .val (.int ((p1 &&& (7 : Int32)) % (5 : Int32))), oi r_3, .unset, .unset, .unset, .unset, .unset] [])) (fun _ k => XS.istore X3.here hx rfl (hb hby at_43) rfl (l' := #[oi p0, oi p1, oi p2, oi p3, oi p4, oi p5, oi f6, oi f7, .val (.int ((p1 &&& (7 : Int32)) % (5 : Int32))), oi r_3, .unset, .unset, .unset, .unset, .unset]) rfl k) ?_
      refine own_go (st' := T3.setTop (mkF m 46 #[oi p0, oi p1, oi p2, oi p3, oi p4, oi p5, oi f6, oi f7, .val (.int ((p1 &&& (7 : Int32)) % (5 : Int32))), oi r_3, .unset, .unset, .unset, .unset, .unset] [(.int p3)])) (fun _ k => XS.iloadN X3.here hx rfl (hb hby at_45) rfl k) ?_
      refine own_go (st' := T3.setTop (mkF m 48 #[oi p0, oi p1, oi p2, oi p3, oi p4, oi p5, oi f6, oi f7, .val (.int ((p1 &&& (7 : Int32)) % (5 : Int32))), oi r_3, .unset, .unset, .unset, .unset, .unset] [(.int f7), (.int p3)])) (fun _ k => XS.iload X3.here hx rfl (hb hby at_46) rfl k) ?_
      obtain ⟨_, _, ⟨T4, LC4, kC4, nC4⟩, -, X4, ⟨Lc4, hQ4, lq4, yq4, zq4⟩, st4⟩ := Jvm.LawKit.callS X3 hx (y := oM10) hown (mvT hZ (own_hw hw 0)) (mvT hZ (own_hw hw 1)) (mvT hZ (own_hw hw 2)) (mvT hZ (own_hw hw 3)) (by decide) (backOf (W := 0) (rm1 l Z a0 hw [] p3 f7 h0 n0 (by omega) ) hZ (own_hw hw 3) (own_hw hw 2) (by decide) (by decide)) (g := (mkF m 48 #[oi p0, oi p1, oi p2, oi p3, oi p4, oi p5, oi f6, oi f7, .val (.int ((p1 &&& (7 : Int32)) % (5 : Int32))), oi r_3, .unset, .unset, .unset, .unset, .unset] [(.int f7), (.int p3)])) rfl (by rw [hml]; rfl) (argsL := [(.int p3), (.int f7)]) (rest := []) (lenOf pd_9 rfl) rfl (by show 2 * 0 + _ ≤ _; exact Nat.le_of_eq rfl) (hb hby at_48) (fun _ _ => ⟨rfl, eq3, (by decide : 0 + 0 ≤ _), (by decide : 0 + 0 ≤ _)⟩)
      dsimp only [Pt.U, Pt.locs, Pt.cells, Pt.slots] at X4 lq4 yq4 zq4 st4 hQ4
      subst lq4 yq4 zq4
      obtain ⟨r_4, rfl, Nq4, eq4, g4_0⟩ := hQ4
      skip
      have N4 := Fr.app N3 Nq4
      refine own_go (st' := T4.setTop (mkF m 51 #[oi p0, oi p1, oi p2, oi p3, oi p4, oi p5, oi f6, oi f7, .val (.int ((p1 &&& (7 : Int32)) % (5 : Int32))), oi r_3, .unset, .unset, .unset, .unset, .unset] [(.int r_4)])) (fun t k => st4 t k) ?_
      have hl_r_4 := g4_0
      refine own_go (st' := T4.setTop (mkF m 53 #[oi p0, oi p1, oi p2, oi p3, oi p4, oi p5, oi f6, oi f7, .val (.int ((p1 &&& (7 : Int32)) % (5 : Int32))), oi r_3, oi r_4, .unset, .unset, .unset, .unset] [])) (fun _ k => XS.istore X4.here hx rfl (hb hby at_51) rfl (l' := #[oi p0, oi p1, oi p2, oi p3, oi p4, oi p5, oi f6, oi f7, .val (.int ((p1 &&& (7 : Int32)) % (5 : Int32))), oi r_3, oi r_4, .unset, .unset, .unset, .unset]) rfl k) ?_
      refine own_go (st' := T4.setTop (mkF m 55 #[oi p0, oi p1, oi p2, oi p3, oi p4, oi p5, oi f6, oi f7, .val (.int ((p1 &&& (7 : Int32)) % (5 : Int32))), oi r_3, oi r_4, .unset, .unset, .unset, .unset] [(.int p4)])) (fun _ k => XS.iload X4.here hx rfl (hb hby at_53) rfl k) ?_
      refine own_go (st' := T4.setTop (mkF m 57 #[oi p0, oi p1, oi p2, oi p3, oi p4, oi p5, oi f6, oi f7, .val (.int ((p1 &&& (7 : Int32)) % (5 : Int32))), oi r_3, oi r_4, .unset, .unset, .unset, .unset] [(.int f7), (.int p4)])) (fun _ k => XS.iload X4.here hx rfl (hb hby at_55) rfl k) ?_
      obtain ⟨_, _, ⟨T5, LC5, kC5, nC5⟩, -, X5, ⟨Lc5, hQ5, lq5, yq5, zq5⟩, st5⟩ := Jvm.LawKit.callS X4 hx (y := oM10) hown (mvT hZ (own_hw hw 0)) (mvT hZ (own_hw hw 1)) (mvT hZ (own_hw hw 2)) (mvT hZ (own_hw hw 3)) (by decide) (backOf (W := 0) (rm1 l Z a0 hw [] p4 f7 h0 n0 (by omega) ) hZ (own_hw hw 3) (own_hw hw 2) (by decide) (by decide)) (g := (mkF m 57 #[oi p0, oi p1, oi p2, oi p3, oi p4, oi p5, oi f6, oi f7, .val (.int ((p1 &&& (7 : Int32)) % (5 : Int32))), oi r_3, oi r_4, .unset, .unset, .unset, .unset] [(.int f7), (.int p4)])) rfl (by rw [hml]; rfl) (argsL := [(.int p4), (.int f7)]) (rest := []) (lenOf pd_9 rfl) rfl (by show 2 * 0 + _ ≤ _; exact Nat.le_of_eq rfl) (hb hby at_57) (fun _ _ => ⟨rfl, eq4, (by decide : 0 + 0 ≤ _), (by decide : 0 + 0 ≤ _)⟩)
      dsimp only [Pt.U, Pt.locs, Pt.cells, Pt.slots] at X5 lq5 yq5 zq5 st5 hQ5
      subst lq5 yq5 zq5
      obtain ⟨r_5, rfl, Nq5, eq5, g5_0⟩ := hQ5
      skip
      have N5 := Fr.app N4 Nq5
      refine own_go (st' := T5.setTop (mkF m 60 #[oi p0, oi p1, oi p2, oi p3, oi p4, oi p5, oi f6, oi f7, .val (.int ((p1 &&& (7 : Int32)) % (5 : Int32))), oi r_3, oi r_4, .unset, .unset, .unset, .unset] [(.int r_5)])) (fun t k => st5 t k) ?_
      have hl_r_5 := g5_0
      refine own_go (st' := T5.setTop (mkF m 62 #[oi p0, oi p1, oi p2, oi p3, oi p4, oi p5, oi f6, oi f7, .val (.int ((p1 &&& (7 : Int32)) % (5 : Int32))), oi r_3, oi r_4, oi r_5, .unset, .unset, .unset] [])) (fun _ k => XS.istore X5.here hx rfl (hb hby at_60) rfl (l' := #[oi p0, oi p1, oi p2, oi p3, oi p4, oi p5, oi f6, oi f7, .val (.int ((p1 &&& (7 : Int32)) % (5 : Int32))), oi r_3, oi r_4, oi r_5, .unset, .unset, .unset]) rfl k) ?_
      refine own_go (st' := T5.setTop (mkF m 64 #[oi p0, oi p1, oi p2, oi p3, oi p4, oi p5, oi f6, oi f7, .val (.int ((p1 &&& (7 : Int32)) % (5 : Int32))), oi r_3, oi r_4, oi r_5, .unset, .unset, .unset] [(.int p5)])) (fun _ k => XS.iload X5.here hx rfl (hb hby at_62) rfl k) ?_
      refine own_go (st' := T5.setTop (mkF m 66 #[oi p0, oi p1, oi p2, oi p3, oi p4, oi p5, oi f6, oi f7, .val (.int ((p1 &&& (7 : Int32)) % (5 : Int32))), oi r_3, oi r_4, oi r_5, .unset, .unset, .unset] [(.int f7), (.int p5)])) (fun _ k => XS.iload X5.here hx rfl (hb hby at_64) rfl k) ?_
      obtain ⟨_, _, ⟨T6, LC6, kC6, nC6⟩, -, X6, ⟨Lc6, hQ6, lq6, yq6, zq6⟩, st6⟩ := Jvm.LawKit.callS X5 hx (y := oM10) hown (mvT hZ (own_hw hw 0)) (mvT hZ (own_hw hw 1)) (mvT hZ (own_hw hw 2)) (mvT hZ (own_hw hw 3)) (by decide) (backOf (W := 0) (rm1 l Z a0 hw [] p5 f7 h0 n0 (by omega) ) hZ (own_hw hw 3) (own_hw hw 2) (by decide) (by decide)) (g := (mkF m 66 #[oi p0, oi p1, oi p2, oi p3, oi p4, oi p5, oi f6, oi f7, .val (.int ((p1 &&& (7 : Int32)) % (5 : Int32))), oi r_3, oi r_4, oi r_5, .unset, .unset, .unset] [(.int f7), (.int p5)])) rfl (by rw [hml]; rfl) (argsL := [(.int p5), (.int f7)]) (rest := []) (lenOf pd_9 rfl) rfl (by show 2 * 0 + _ ≤ _; exact Nat.le_of_eq rfl) (hb hby at_66) (fun _ _ => ⟨rfl, eq5, (by decide : 0 + 0 ≤ _), (by decide : 0 + 0 ≤ _)⟩)
      dsimp only [Pt.U, Pt.locs, Pt.cells, Pt.slots] at X6 lq6 yq6 zq6 st6 hQ6
      subst lq6 yq6 zq6
      obtain ⟨r_6, rfl, Nq6, eq6, g6_0⟩ := hQ6
      skip
      have N6 := Fr.app N5 Nq6
      refine own_go (st' := T6.setTop (mkF m 69 #[oi p0, oi p1, oi p2, oi p3, oi p4, oi p5, oi f6, oi f7, .val (.int ((p1 &&& (7 : Int32)) % (5 : Int32))), oi r_3, oi r_4, oi r_5, .unset, .unset, .unset] [(.int r_6)])) (fun t k => st6 t k) ?_
      have hl_r_6 := g6_0
      refine own_go (st' := T6.setTop (mkF m 71 #[oi p0, oi p1, oi p2, oi p3, oi p4, oi p5, oi f6, oi f7, .val (.int ((p1 &&& (7 : Int32)) % (5 : Int32))), oi r_3, oi r_4, oi r_5, oi r_6, .unset, .unset] [])) (fun _ k => XS.istore X6.here hx rfl (hb hby at_69) rfl (l' := #[oi p0, oi p1, oi p2, oi p3, oi p4, oi p5, oi f6, oi f7, .val (.int ((p1 &&& (7 : Int32)) % (5 : Int32))), oi r_3, oi r_4, oi r_5, oi r_6, .unset, .unset]) rfl k) ?_
      rcases hf6 with rfl | rfl
      · --
        refine own_go (st' := T6.setTop (mkF m 73 #[oi p0, oi p1, oi p2, oi p3, oi p4, oi p5, oi 0, oi f7, .val (.int ((p1 &&& (7 : Int32)) % (5 : Int32))), oi r_3, oi r_4, oi r_5, oi r_6, .unset, .unset] [(.int (0 : Int32))])) (fun _ k => XS.iload X6.here hx rfl (hb hby at_71) rfl k) ?_
        have hc7 : (0 : Int32) = (0 : Int32) := by decide
        refine own_go (st' := T6.setTop (mkF m 80 #[oi p0, oi p1, oi p2, oi p3, oi p4, oi p5, oi 0, oi f7, .val (.int ((p1 &&& (7 : Int32)) % (5 : Int32))), oi r_3, oi r_4, oi r_5, oi r_6, .unset, .unset] [])) (fun _ k => XS.ifYes X6.here hx rfl (pc0 := 73) (pc' := 80) rfl (hb hby at_73) rfl ((if0 _ _).trans (teq hc7).1) (by decide) (by decide) k) ?_
        have hn8 := own_r5 p1
        obtain ⟨xs, hxs⟩ : ∃ z : Int32, z = ((p1 &&& (7 : Int32)) % (5 : Int32)) := ⟨_, rfl⟩
        rw [← hxs] at hn8 ⊢
        clear hxs
        rcases hn8 with rfl | rfl | rfl | rfl | rfl
        · --
          refine own_go (st' := T6.setTop (mkF m 82 #[oi p0, oi p1, oi p2, oi p3, oi p4, oi p5, oi 0, oi f7, oi 0, oi r_3, oi r_4, oi r_5, oi r_6, .unset, .unset] [(.int (0 : Int32))])) (fun _ k => XS.iload X6.here hx rfl (hb hby at_80) rfl k) ?_
          refine own_go (st' := T6.setTop (mkF m 84 #[oi p0, oi p1, oi p2, oi p3, oi p4, oi p5, oi 0, oi f7, oi 0, oi r_3, oi r_4, oi r_5, oi r_6, .unset, .unset] [(.int r_3), (.int (0 : Int32))])) (fun _ k => XS.iload X6.here hx rfl (hb hby at_82) rfl k) ?_
          refine own_go (st' := T6.setTop (mkF m 86 #[oi p0, oi p1, oi p2, oi p3, oi p4, oi p5, oi 0, oi f7, oi 0, oi r_3, oi r_4, oi r_5, oi r_6, .unset, .unset] [(.int r_4), (.int r_3), (.int (0 : Int32))])) (fun _ k => XS.iload X6.here hx rfl (hb hby at_84) rfl k) ?_
          refine own_go (st' := T6.setTop (mkF m 88 #[oi p0, oi p1, oi p2, oi p3, oi p4, oi p5, oi 0, oi f7, oi 0, oi r_3, oi r_4, oi r_5, oi r_6, .unset, .unset] [(.int r_5), (.int r_4), (.int r_3), (.int (0 : Int32))])) (fun _ k => XS.iload X6.here hx rfl (hb hby at_86) rfl k) ?_
          refine own_go (st' := T6.setTop (mkF m 90 #[oi p0, oi p1, oi p2, oi p3, oi p4, oi p5, oi 0, oi f7, oi 0, oi r_3, oi r_4, oi r_5, oi r_6, .unset, .unset] [(.int r_6), (.int r_5), (.int r_4), (.int r_3), (.int (0 : Int32))])) (fun _ k => XS.iload X6.here hx rfl (hb hby at_88) rfl k) ?_
          obtain ⟨_, _, ⟨T8, LC8, kC8, nC8⟩, -, X8, hS8, hg8, ⟨Lc8, hQ8, lq8, yq8, zq8, CR8⟩, st8⟩ := Jvm.RoadKit.callSS X6 hx (y := oM5) hown (mvT hZ (own_hw hw 4)) (mvT hZ (own_hw hw 5)) (mvT hZ (own_hw hw 2)) (mvT hZ (own_hw hw 6)) (by decide) (backOfSH (W := 0) (rmk_0 l Z a0 hw [] zc r_3 r_4 r_5 r_6 h0 n0 (by omega) pr1 (by assumption) hl_r_3 hl_r_4 hl_r_5 hl_r_6) hZ (own_hw hw 6) (own_hw hw 2) (by decide) (by decide) hEL Aj2.1) (g := (mkF m 90 #[oi p0, oi p1, oi p2, oi p3, oi p4, oi p5, oi 0, oi f7, oi 0, oi r_3, oi r_4, oi r_5, oi r_6, .unset, .unset] [(.int r_6), (.int r_5), (.int r_4), (.int r_3), (.int (0 : Int32))])) rfl (by rw [hml]; rfl) (argsL := [(.int (0 : Int32)), (.int r_3), (.int r_4), (.int r_5), (.int r_6)]) (rest := []) (lenOf pd_10 rfl) rfl (by show 2 * 0 + _ ≤ _; exact Nat.le_of_eq rfl) (hb hby at_90) (fun _ _ => ⟨rfl, eq6, (by decide : 0 + 4 ≤ _), (by decide : 0 + 8 ≤ _)⟩)
          dsimp only [Pt.U, Pt.locs, Pt.cells, Pt.slots] at X8 lq8 yq8 zq8 st8 hQ8
          subst lq8 yq8 zq8
          dsimp only [Pt.U, Pt.locs, Pt.cells, Pt.slots] at hS8 hg8 CR8
          obtain ⟨X8, hS8, hZ, hown⟩ := rebS hSj2 (by rw [eq6]; omega) X8 hS8 hg8 hZ hown
          obtain ⟨h8, e8⟩ : ∃ z, T8.heap = z := ⟨_, rfl⟩
          rw [e8] at hQ8 hS8
          obtain ⟨a1_8, r_8, kr_8, rfl, Nq8, K8, g8_0, g8_1, g8_2, g8_3, g8_4⟩ := hQ8
          have sz8 : h0.size ≤ h8.size := K8.1
          rw [e8] at CR8
          have AA9 := Aj2.trans CR8
          have c10 : Exa Z h8 va oS4 := (pr4.keep K8)
          have c11 : Exa Z h8 e_1 oS1 := (pr7.keep K8)
          have c12 : Exa Z h8 e_2 oS1 := (pr8.keep K8)
          have N8 := Fr.app N6 Nq8
          have lt8_1 : @LT.lt Nat _ a1_8 h8.size := g8_0.lt
          have lt8_2 : @LT.lt Nat _ r_8 h8.size := g8_3.lt
          have c14 : Exa Z h8 t_1 oS0 := (pr10.keep K8)
          have ap13 : @Ne Nat t_1 r_8 := own_ne_oa (own_hw hw 8) c14 g8_3
          have c16 : Exa Z h8 t_2 oS0 := (pr15.keep K8)
          have ap15 : @Ne Nat t_2 r_8 := own_ne_oa (own_hw hw 8) c16 g8_3
          have ap17 : @Ne Nat a1_8 r_8 := own_ne_oa (own_hw hw 8) g8_0 g8_3
          refine own_go (st' := T8.setTop (mkF m 93 #[oi p0, oi p1, oi p2, oi p3, oi p4, oi p5, oi 0, oi f7, oi 0, oi r_3, oi r_4, oi r_5, oi r_6, .unset, .unset] [(.ref a1_8)])) (fun _ k => st8.trans k) ?_
          refine own_go (st' := T8.setTop (mkF m 95 #[oi p0, oi p1, oi p2, oi p3, oi p4, oi p5, oi 0, oi f7, oi 0, oi r_3, oi r_4, oi r_5, oi r_6, oR a1_8, .unset] [])) (fun _ k => XS.astore X8.here hx rfl (hb hby at_93) rfl rfl (l' := #[oi p0, oi p1, oi p2, oi p3, oi p4, oi p5, oi 0, oi f7, oi 0, oi r_3, oi r_4, oi r_5, oi r_6, oR a1_8, .unset]) rfl k) ?_
          refine own_go (st' := T8.setTop (mkF m 96 #[oi p0, oi p1, oi p2, oi p3, oi p4, oi p5, oi 0, oi f7, oi 0, oi r_3, oi r_4, oi r_5, oi r_6, oR a1_8, .unset] [.null])) (fun _ k => XS.aconstNull X8.here hx rfl (hb hby at_95) k) ?_
          refine own_go (st' := T8.setTop (mkF m 98 #[oi p0, oi p1, oi p2, oi p3, oi p4, oi p5, oi 0, oi f7, oi 0, oi r_3, oi r_4, oi r_5, oi r_6, oR a1_8, .val .null] [])) (fun _ k => XS.astore X8.here hx rfl (hb hby at_96) rfl rfl (l' := #[oi p0, oi p1, oi p2, oi p3, oi p4, oi p5, oi 0, oi f7, oi 0, oi r_3, oi r_4, oi r_5, oi r_6, oR a1_8, .val .null]) rfl k) ?_
          refine own_go (st' := T8.setTop (mkF m 100 #[oi p0, oi p1, oi p2, oi p3, oi p4, oi p5, oi 0, oi f7, oi 0, oi r_3, oi r_4, oi r_5, oi r_6, oR a1_8, .val .null] [(.int (0 : Int32))])) (fun _ k => XS.iload X8.here hx rfl (hb hby at_98) rfl k) ?_
          have hc18 : (0 : Int32) = (0 : Int32) := by decide
          refine own_go (st' := T8.setTop (mkF m 103 #[oi p0, oi p1, oi p2, oi p3, oi p4, oi p5, oi 0, oi f7, oi 0, oi r_3, oi r_4, oi r_5, oi r_6, oR a1_8, .val .null] [])) (fun _ k => XS.ifNo X8.here hx rfl (hb hby at_100) rfl ((if0 _ _).trans (teq hc18).2) k) ?_
          refine own_go (st' := T8.setTop (mkF m 105 #[oi p0, oi p1, oi p2, oi p3, oi p4, oi p5, oi 0, oi f7, oi 0, oi r_3, oi r_4, oi r_5, oi r_6, oR a1_8, .val .null] [(.int (0 : Int32))])) (fun _ k => XS.iload X8.here hx rfl (hb hby at_103) rfl k) ?_
          refine own_go (st' := T8.setTop (mkF m 106 #[oi p0, oi p1, oi p2, oi p3, oi p4, oi p5, oi 0, oi f7, oi 0, oi r_3, oi r_4, oi r_5, oi r_6, oR a1_8, .val .null] [(.int (3 : Int32)), (.int (0 : Int32))])) (fun _ k => XS.iconst X8.here hx rfl (hb hby at_105) k) ?_
          have hc19 : ¬ ((0 : Int32) = (3 : Int32)) := by decide
          refine own_go (st' := T8.setTop (mkF m 150 #[oi p0, oi p1, oi p2, oi p3, oi p4, oi p5, oi 0, oi f7, oi 0, oi r_3, oi r_4, oi r_5, oi r_6, oR a1_8, .val .null] [])) (fun _ k => XS.icmpYes X8.here hx rfl (pc0 := 106) (pc' := 150) rfl (hb hby at_106) rfl (feq hc19).2 (by decide) (by decide) k) ?_
          refine own_go (st' := T8.setTop (mkF m 152 #[oi p0, oi p1, oi p2, oi p3, oi p4, oi p5, oi 0, oi f7, oi 0, oi r_3, oi r_4, oi r_5, oi r_6, oR a1_8, .val .null] [(.ref a1_8)])) (fun _ k => XS.aload X8.here hx rfl (hb hby at_150) rfl rfl k) ?_
          have c21 : Sta Z h8 oS0 oS3 "Z" (.int zc) := (own_sta_keep pr1 K8 all0)
          have c22 : Sta Z h8 oS1 "$VALUES" oS4 (.ref va) := (own_sta_keep pr2 K8 all0)
          have c23 : Arv Z h8 va kva (.object oS1) (2 : Int32) [(.ref e_1), (.ref e_2)] .null := (pr3.keep K8 nin0)
          have c24 : Fld Z h8 e_1 oS1 "m_sText" oS2 (.ref t_1) := (pr9.keep K8 nin0)
          have c25 : Fld Z h8 t_1 oS0 "value" "[B" (.ref tv_1) := (pr11.keep K8 nin0)
          have c26 : Fld Z h8 t_1 oS0 "coder" "B" (.int (0 : Int32)) := (pr12.keep K8 nin0)
          have c27 : Arv Z h8 tv_1 tk_1 .byte (3 : Int32) [(.int (49 : Int32)), (.int (46 : Int32)), (.int (48 : Int32))] (.int (0 : Int32)) := (pr13.keep K8 nin0)
          have c28 : Fld Z h8 e_2 oS1 "m_sText" oS2 (.ref t_2) := (pr14.keep K8 nin0)
          have c29 : Fld Z h8 t_2 oS0 "value" "[B" (.ref tv_2) := (pr16.keep K8 nin0)
          have c30 : Fld Z h8 t_2 oS0 "coder" "B" (.int (0 : Int32)) := (pr17.keep K8 nin0)
          have c31 : Arv Z h8 tv_2 tk_2 .byte (3 : Int32) [(.int (50 : Int32)), (.int (46 : Int32)), (.int (48 : Int32))] (.int (0 : Int32)) := (pr18.keep K8 nin0)
          obtain ⟨_, _, ⟨T20, LC20, kC20, nC20⟩, -, X20, ⟨Lc20, hQ20, lq20, yq20, zq20⟩, st20⟩ := Jvm.LawKit.callS X8 hx (y := oM1) hown (mvT hZ (own_hw hw 37)) (mvT hZ (own_hw hw 38)) (mvT hZ (own_hw hw 39)) (mvT hZ (own_hw hw 40)) (by decide) (backOf (W := 0) (rof_0 l Z a0 hw [] va kva e_1 e_2 t_1 tv_1 tk_1 t_2 tv_2 tk_2 a1_8 r_8 kr_8 zc h8 n0 (by omega) c21 (by assumption) c22 c23 c10 c11 c12 c24 c14 c25 c26 c27 c28 c16 c29 c30 c31 g8_0 g8_1 g8_2 g8_3 (own_ne (by omega)) (own_ne (by omega))) hZ (own_hw hw 40) (own_hw hw 39) (by decide) (by decide)) (g := (mkF m 152 #[oi p0, oi p1, oi p2, oi p3, oi p4, oi p5, oi 0, oi f7, oi 0, oi r_3, oi r_4, oi r_5, oi r_6, oR a1_8, .val .null] [(.ref a1_8)])) rfl (by rw [hml]; rfl) (argsL := [(.ref a1_8)]) (rest := []) (lenOf pd_11 rfl) rfl (by show 2 * 0 + _ ≤ _; exact Nat.le_of_eq rfl) (hb hby at_152) (fun _ _ => ⟨rfl, e8, (by decide : 4 + 1 ≤ _), (by decide : 8 + 2 ≤ _)⟩)
          dsimp only [Pt.U, Pt.locs, Pt.cells, Pt.slots] at X20 lq20 yq20 zq20 st20 hQ20
          subst lq20 yq20 zq20
          obtain ⟨h20, e20⟩ : ∃ z, T20.heap = z := ⟨_, rfl⟩
          rw [e20] at hQ20
          obtain ⟨rfl, Nq20, K20⟩ := hQ20
          have sz20 : h8.size ≤ h20.size := K20.1
          have N20 := Fr.app N8 Nq20
          refine own_go (st' := T20.setTop (mkF m 155 #[oi p0, oi p1, oi p2, oi p3, oi p4, oi p5, oi 0, oi f7, oi 0, oi r_3, oi r_4, oi r_5, oi r_6, oR a1_8, .val .null] [.null])) (fun t k => st20 t k) ?_
          refine own_go (st' := T20.setTop (mkF m 157 #[oi p0, oi p1, oi p2, oi p3, oi p4, oi p5, oi 0, oi f7, oi 0, oi r_3, oi r_4, oi r_5, oi r_6, oR a1_8, .val .null] [.null, .null])) (fun _ k => XS.aload X20.here hx rfl (hb hby at_155) rfl rfl k) ?_
          refine own_go (st' := T20.setTop (mkF m 160 #[oi p0, oi p1, oi p2, oi p3, oi p4, oi p5, oi 0, oi f7, oi 0, oi r_3, oi r_4, oi r_5, oi r_6, oR a1_8, .val .null] [])) (fun _ k => Jvm.RoadKit.acmp (g := (mkF m 157 #[oi p0, oi p1, oi p2, oi p3, oi p4, oi p5, oi 0, oi f7, oi 0, oi r_3, oi r_4, oi r_5, oi r_6, oR a1_8, .val .null] [.null, .null])) X20 hx rfl rfl rfl (pc0 := 157) (pc' := 160) (same := true) rfl (hb hby at_157) rfl (decide_eq_true rfl) (by decide) (by decide) k) ?_
          refine own_go (st' := T20.setTop (mkF m 161 #[oi p0, oi p1, oi p2, oi p3, oi p4, oi p5, oi 0, oi f7, oi 0, oi r_3, oi r_4, oi r_5, oi r_6, oR a1_8, .val .null] [(.int (1 : Int32))])) (fun _ k => XS.iconst X20.here hx rfl (hb hby at_160) k) ?_
          refine own_go (st' := T20.setTop (mkF m 165 #[oi p0, oi p1, oi p2, oi p3, oi p4, oi p5, oi 0, oi f7, oi 0, oi r_3, oi r_4, oi r_5, oi r_6, oR a1_8, .val .null] [(.int (1 : Int32))])) (fun _ k => XS.goto X20.here hx rfl (pc0 := 161) (pc' := 165) rfl (hb hby at_161) (by decide) (by decide) k) ?_
          obtain ⟨fs, hr, hrun, hended, hR1, hR2, hR3, hR4⟩ := X20.leaveW hS8 (by rw [e20]; omega) (v := some (.int (1 : Int32))) (fun h => by rw [Bd.returns] at h; cases h)
          refine ⟨_, _, ?_, hP _ _ hrun hended ⟨_, _, rfl, ?_, hR1, hR2, hR3, hR4.mono (by decide) (by decide)⟩⟩
          · exact retN X20 hx (t := .boolean) Bd.returns (by simp) (hb hby at_165) hr
          · show Qrm0 Z p0 p1 p2 p3 p4 p5 va kva e_1 e_2 t_1 tv_1 tk_1 t_2 tv_2 tk_2 zc h0 n0 _ T20.heap _
            rw [e20]
            exact ⟨rfl, N20, trivial⟩
        · --
          refine own_go (st' := T6.setTop (mkF m 82 #[oi p0, oi p1, oi p2, oi p3, oi p4, oi p5, oi 0, oi f7, oi 1, oi r_3, oi r_4, oi r_5, oi r_6, .unset, .unset] [(.int (1 : Int32))])) (fun _ k => XS.iload X6.here hx rfl (hb hby at_80) rfl k) ?_
          refine own_go (st' := T6.setTop (mkF m 84 #[oi p0, oi p1, oi p2, oi p3, oi p4, oi p5, oi 0, oi f7, oi 1, oi r_3, oi r_4, oi r_5, oi r_6, .unset, .unset] [(.int r_3), (.int (1 : Int32))])) (fun _ k => XS.iload X6.here hx rfl (hb hby at_82) rfl k) ?_
          refine own_go (st' := T6.setTop (mkF m 86 #[oi p0, oi p1, oi p2, oi p3, oi p4, oi p5, oi 0, oi f7, oi 1, oi r_3, oi r_4, oi r_5, oi r_6, .unset, .unset] [(.int r_4), (.int r_3), (.int (1 : Int32))])) (fun _ k => XS.iload X6.here hx rfl (hb hby at_84) rfl k) ?_
          refine own_go (st' := T6.setTop (mkF m 88 #[oi p0, oi p1, oi p2, oi p3, oi p4, oi p5, oi 0, oi f7, oi 1, oi r_3, oi r_4, oi r_5, oi r_6, .unset, .unset] [(.int r_5), (.int r_4), (.int r_3), (.int (1 : Int32))])) (fun _ k => XS.iload X6.here hx rfl (hb hby at_86) rfl k) ?_
          refine own_go (st' := T6.setTop (mkF m 90 #[oi p0, oi p1, oi p2, oi p3, oi p4, oi p5, oi 0, oi f7, oi 1, oi r_3, oi r_4, oi r_5, oi r_6, .unset, .unset] [(.int r_6), (.int r_5), (.int r_4), (.int r_3), (.int (1 : Int32))])) (fun _ k => XS.iload X6.here hx rfl (hb hby at_88) rfl k) ?_
          obtain ⟨_, _, ⟨T33, LC33, kC33, nC33⟩, -, X33, ⟨Lc33, hQ33, lq33, yq33, zq33⟩, st33⟩ := Jvm.LawKit.callS X6 hx (y := oM5) hown (mvT hZ (own_hw hw 4)) (mvT hZ (own_hw hw 5)) (mvT hZ (own_hw hw 2)) (mvT hZ (own_hw hw 6)) (by decide) (backOf (W := 0) (rmk_1 l Z a0 hw [] zc r_3 r_4 r_5 r_6 h0 n0 (by omega) pr1 (by assumption) hl_r_3 hl_r_4 hl_r_5 hl_r_6) hZ (own_hw hw 6) (own_hw hw 2) (by decide) (by decide)) (g := (mkF m 90 #[oi p0, oi p1, oi p2, oi p3, oi p4, oi p5, oi 0, oi f7, oi 1, oi r_3, oi r_4, oi r_5, oi r_6, .unset, .unset] [(.int r_6), (.int r_5), (.int r_4), (.int r_3), (.int (1 : Int32))])) rfl (by rw [hml]; rfl) (argsL := [(.int (1 : Int32)), (.int r_3), (.int r_4), (.int r_5), (.int r_6)]) (rest := []) (lenOf pd_10 rfl) rfl (by show 2 * 0 + _ ≤ _; exact Nat.le_of_eq rfl) (hb hby at_90) (fun _ _ => ⟨rfl, eq6, (by decide : 0 + 3 ≤ _), (by decide : 0 + 6 ≤ _)⟩)
          dsimp only [Pt.U, Pt.locs, Pt.cells, Pt.slots] at X33 lq33 yq33 zq33 st33 hQ33
          subst lq33 yq33 zq33
          obtain ⟨h33, e33⟩ : ∃ z, T33.heap = z := ⟨_, rfl⟩
          rw [e33] at hQ33
          obtain ⟨a1_33, r_33, kr_33, rfl, Nq33, K33, g33_0, g33_1, g33_2, g33_3, g33_4⟩ := hQ33
          have sz33 : h0.size ≤ h33.size := K33.1
          have N33 := Fr.app N6 Nq33
          have lt33_1 : @LT.lt Nat _ a1_33 h33.size := g33_0.lt
          have lt33_2 : @LT.lt Nat _ r_33 h33.size := g33_3.lt
          refine own_go (st' := T33.setTop (mkF m 93 #[oi p0, oi p1, oi p2, oi p3, oi p4, oi p5, oi 0, oi f7, oi 1, oi r_3, oi r_4, oi r_5, oi r_6, .unset, .unset] [(.ref a1_33)])) (fun t k => st33 t k) ?_
          refine own_go (st' := T33.setTop (mkF m 95 #[oi p0, oi p1, oi p2, oi p3, oi p4, oi p5, oi 0, oi f7, oi 1, oi r_3, oi r_4, oi r_5, oi r_6, oR a1_33, .unset] [])) (fun _ k => XS.astore X33.here hx rfl (hb hby at_93) rfl rfl (l' := #[oi p0, oi p1, oi p2, oi p3, oi p4, oi p5, oi 0, oi f7, oi 1, oi r_3, oi r_4, oi r_5, oi r_6, oR a1_33, .unset]) rfl k) ?_
          refine own_go (st' := T33.setTop (mkF m 96 #[oi p0, oi p1, oi p2, oi p3, oi p4, oi p5, oi 0, oi f7, oi 1, oi r_3, oi r_4, oi r_5, oi r_6, oR a1_33, .unset] [.null])) (fun _ k => XS.aconstNull X33.here hx rfl (hb hby at_95) k) ?_
          refine own_go (st' := T33.setTop (mkF m 98 #[oi p0, oi p1, oi p2, oi p3, oi p4, oi p5, oi 0, oi f7, oi 1, oi r_3, oi r_4, oi r_5, oi r_6, oR a1_33, .val .null] [])) (fun _ k => XS.astore X33.here hx rfl (hb hby at_96) rfl rfl (l' := #[oi p0, oi p1, oi p2, oi p3, oi p4, oi p5, oi 0, oi f7, oi 1, oi r_3, oi r_4, oi r_5, oi r_6, oR a1_33, .val .null]) rfl k) ?_
          refine own_go (st' := T33.setTop (mkF m 100 #[oi p0, oi p1, oi p2, oi p3, oi p4, oi p5, oi 0, oi f7, oi 1, oi r_3, oi r_4, oi r_5, oi r_6, oR a1_33, .val .null] [(.int (0 : Int32))])) (fun _ k => XS.iload X33.here hx rfl (hb hby at_98) rfl k) ?_
          have hc34 : (0 : Int32) = (0 : Int32) := by decide
          refine own_go (st' := T33.setTop (mkF m 103 #[oi p0, oi p1, oi p2, oi p3, oi p4, oi p5, oi 0, oi f7, oi 1, oi r_3, oi r_4, oi r_5, oi r_6, oR a1_33, .val .null] [])) (fun _ k => XS.ifNo X33.here hx rfl (hb hby at_100) rfl ((if0 _ _).trans (teq hc34).2) k) ?_
          refine own_go (st' := T33.setTop (mkF m 105 #[oi p0, oi p1, oi p2, oi p3, oi p4, oi p5, oi 0, oi f7, oi 1, oi r_3, oi r_4, oi r_5, oi r_6, oR a1_33, .val .null] [(.int (1 : Int32))])) (fun _ k => XS.iload X33.here hx rfl (hb hby at_103) rfl k) ?_
          refine own_go (st' := T33.setTop (mkF m 106 #[oi p0, oi p1, oi p2, oi p3, oi p4, oi p5, oi 0, oi f7, oi 1, oi r_3, oi r_4, oi r_5, oi r_6, oR a1_33, .val .null] [(.int (3 : Int32)), (.int (1 : Int32))])) (fun _ k => XS.iconst X33.here hx rfl (hb hby at_105) k) ?_
          have hc35 : ¬ ((1 : Int32) = (3 : Int32)) := by decide
          refine own_go (st' := T33.setTop (mkF m 150 #[oi p0, oi p1, oi p2, oi p3, oi p4, oi p5, oi 0, oi f7, oi 1, oi r_3, oi r_4, oi r_5, oi r_6, oR a1_33, .val .null] [])) (fun _ k => XS.icmpYes X33.here hx rfl (pc0 := 106) (pc' := 150) rfl (hb hby at_106) rfl (feq hc35).2 (by decide) (by decide) k) ?_
          refine own_go (st' := T33.setTop (mkF m 152 #[oi p0, oi p1, oi p2, oi p3, oi p4, oi p5, oi 0, oi f7, oi 1, oi r_3, oi r_4, oi r_5, oi r_6, oR a1_33, .val .null] [(.ref a1_33)])) (fun _ k => XS.aload X33.here hx rfl (hb hby at_150) rfl rfl k) ?_
          have c37 : Sta Z h33 oS0 oS3 "Z" (.int zc) := (own_sta_keep pr1 K33 all0)
          have c38 : Sta Z h33 oS1 "$VALUES" oS4 (.ref va) := (own_sta_keep pr2 K33 all0)
          have c39 : Arv Z h33 va kva (.object oS1) (2 : Int32) [(.ref e_1), (.ref e_2)] .null := (pr3.keep K33 nin0)
          have c40 : Exa Z h33 va oS4 := (pr4.keep K33)
          have c41 : Exa Z h33 e_1 oS1 := (pr7.keep K33)
          have c42 : Exa Z h33 e_2 oS1 := (pr8.keep K33)
          have c43 : Fld Z h33 e_1 oS1 "m_sText" oS2 (.ref t_1) := (pr9.keep K33 nin0)
          have c44 : Exa Z h33 t_1 oS0 := (pr10.keep K33)
          have c45 : Fld Z h33 t_1 oS0 "value" "[B" (.ref tv_1) := (pr11.keep K33 nin0)
          have c46 : Fld Z h33 t_1 oS0 "coder" "B" (.int (0 : Int32)) := (pr12.keep K33 nin0)
          have c47 : Arv Z h33 tv_1 tk_1 .byte (3 : Int32) [(.int (49 : Int32)), (.int (46 : Int32)), (.int (48 : Int32))] (.int (0 : Int32)) := (pr13.keep K33 nin0)
          have c48 : Fld Z h33 e_2 oS1 "m_sText" oS2 (.ref t_2) := (pr14.keep K33 nin0)
          have c49 : Exa Z h33 t_2 oS0 := (pr15.keep K33)
          have c50 : Fld Z h33 t_2 oS0 "value" "[B" (.ref tv_2) := (pr16.keep K33 nin0)
          have c51 : Fld Z h33 t_2 oS0 "coder" "B" (.int (0 : Int32)) := (pr17.keep K33 nin0)
          have c52 : Arv Z h33 tv_2 tk_2 .byte (3 : Int32) [(.int (50 : Int32)), (.int (46 : Int32)), (.int (48 : Int32))] (.int (0 : Int32)) := (pr18.keep K33 nin0)
          obtain ⟨_, _, ⟨T36, LC36, kC36, nC36⟩, -, X36, ⟨Lc36, hQ36, lq36, yq36, zq36⟩, st36⟩ := Jvm.LawKit.callS X33 hx (y := oM1) hown (mvT hZ (own_hw hw 37)) (mvT hZ (own_hw hw 38)) (mvT hZ (own_hw hw 39)) (mvT hZ (own_hw hw 40)) (by decide) (backOf (W := 0) (rof_1 l Z a0 hw [] va kva e_1 e_2 t_1 tv_1 tk_1 t_2 tv_2 tk_2 a1_33 r_33 kr_33 (own_by r_3) zc h33 n0 (by omega) c37 (by assumption) c38 c39 c40 c41 c42 c43 c44 c45 c46 c47 c48 c49 c50 c51 c52 g33_0 g33_1 g33_2 g33_3 (own_ne (by omega)) (own_ne (by omega))) hZ (own_hw hw 40) (own_hw hw 39) (by decide) (by decide)) (g := (mkF m 152 #[oi p0, oi p1, oi p2, oi p3, oi p4, oi p5, oi 0, oi f7, oi 1, oi r_3, oi r_4, oi r_5, oi r_6, oR a1_33, .val .null] [(.ref a1_33)])) rfl (by rw [hml]; rfl) (argsL := [(.ref a1_33)]) (rest := []) (lenOf pd_11 rfl) rfl (by show 2 * 0 + _ ≤ _; exact Nat.le_of_eq rfl) (hb hby at_152) (fun _ _ => ⟨rfl, e33, (by decide : 3 + 1 ≤ _), (by decide : 6 + 2 ≤ _)⟩)
          dsimp only [Pt.U, Pt.locs, Pt.cells, Pt.slots] at X36 lq36 yq36 zq36 st36 hQ36
          subst lq36 yq36 zq36
          obtain ⟨h36, e36⟩ : ∃ z, T36.heap = z := ⟨_, rfl⟩
          rw [e36] at hQ36
          obtain ⟨rfl, Nq36, K36⟩ := hQ36
          have sz36 : h33.size ≤ h36.size := K36.1
          have N36 := Fr.app N33 Nq36
          refine own_go (st' := T36.setTop (mkF m 155 #[oi p0, oi p1, oi p2, oi p3, oi p4, oi p5, oi 0, oi f7, oi 1, oi r_3, oi r_4, oi r_5, oi r_6, oR a1_33, .val .null] [.null])) (fun t k => st36 t k) ?_
          refine own_go (st' := T36.setTop (mkF m 157 #[oi p0, oi p1, oi p2, oi p3, oi p4, oi p5, oi 0, oi f7, oi 1, oi r_3, oi r_4, oi r_5, oi r_6, oR a1_33, .val .null] [.null, .null])) (fun _ k => XS.aload X36.here hx rfl (hb hby at_155) rfl rfl k) ?_
          refine own_go (st' := T36.setTop (mkF m 160 #[oi p0, oi p1, oi p2, oi p3, oi p4, oi p5, oi 0, oi f7, oi 1, oi r_3, oi r_4, oi r_5, oi r_6, oR a1_33, .val .null] [])) (fun _ k => Jvm.RoadKit.acmp (g := (mkF m 157 #[oi p0, oi p1, oi p2, oi p3, oi p4, oi p5, oi 0, oi f7, oi 1, oi r_3, oi r_4, oi r_5, oi r_6, oR a1_33, .val .null] [.null, .null])) X36 hx rfl rfl rfl (pc0 := 157) (pc' := 160) (same := true) rfl (hb hby at_157) rfl (decide_eq_true rfl) (by decide) (by decide) k) ?_
          refine own_go (st' := T36.setTop (mkF m 161 #[oi p0, oi p1, oi p2, oi p3, oi p4, oi p5, oi 0, oi f7, oi 1, oi r_3, oi r_4, oi r_5, oi r_6, oR a1_33, .val .null] [(.int (1 : Int32))])) (fun _ k => XS.iconst X36.here hx rfl (hb hby at_160) k) ?_
          refine own_go (st' := T36.setTop (mkF m 165 #[oi p0, oi p1, oi p2, oi p3, oi p4, oi p5, oi 0, oi f7, oi 1, oi r_3, oi r_4, oi r_5, oi r_6, oR a1_33, .val .null] [(.int (1 : Int32))])) (fun _ k => XS.goto X36.here hx rfl (pc0 := 161) (pc' := 165) rfl (hb hby at_161) (by decide) (by decide) k) ?_
          obtain ⟨fs, hr, hrun, hended, hR1, hR2, hR3, hR4⟩ := X36.leaveW hSj2 (by rw [e36]; omega) (v := some (.int (1 : Int32))) (fun h => by rw [Bd.returns] at h; cases h)
          refine ⟨_, _, ?_, hP _ _ hrun hended ⟨_, _, rfl, ?_, hR1, hR2, hR3, hR4.mono (by decide) (by decide)⟩⟩
          · exact retN X36 hx (t := .boolean) Bd.returns (by simp) (hb hby at_165) hr
          · show Qrm0 Z p0 p1 p2 p3 p4 p5 va kva e_1 e_2 t_1 tv_1 tk_1 t_2 tv_2 tk_2 zc h0 n0 _ T36.heap _
            rw [e36]
            exact ⟨rfl, N36, trivial⟩
        · --
          refine own_go (st' := T6.setTop (mkF m 82 #[oi p0, oi p1, oi p2, oi p3, oi p4, oi p5, oi 0, oi f7, oi 2, oi r_3, oi r_4, oi r_5, oi r_6, .unset, .unset] [(.int (2 : Int32))])) (fun _ k => XS.iload X6.here hx rfl (hb hby at_80) rfl k) ?_
          refine own_go (st' := T6.setTop (mkF m 84 #[oi p0, oi p1, oi p2, oi p3, oi p4, oi p5, oi 0, oi f7, oi 2, oi r_3, oi r_4, oi r_5, oi r_6, .unset, .unset] [(.int r_3), (.int (2 : Int32))])) (fun _ k => XS.iload X6.here hx rfl (hb hby at_82) rfl k) ?_
          refine own_go (st' := T6.setTop (mkF m 86 #[oi p0, oi p1, oi p2, oi p3, oi p4, oi p5, oi 0, oi f7, oi 2, oi r_3, oi r_4, oi r_5, oi r_6, .unset, .unset] [(.int r_4), (.int r_3), (.int (2 : Int32))])) (fun _ k => XS.iload X6.here hx rfl (hb hby at_84) rfl k) ?_
          refine own_go (st' := T6.setTop (mkF m 88 #[oi p0, oi p1, oi p2, oi p3, oi p4, oi p5, oi 0, oi f7, oi 2, oi r_3, oi r_4, oi r_5, oi r_6, .unset, .unset] [(.int r_5), (.int r_4), (.int r_3), (.int (2 : Int32))])) (fun _ k => XS.iload X6.here hx rfl (hb hby at_86) rfl k) ?_
          refine own_go (st' := T6.setTop (mkF m 90 #[oi p0, oi p1, oi p2, oi p3, oi p4, oi p5, oi 0, oi f7, oi 2, oi r_3, oi r_4, oi r_5, oi r_6, .unset, .unset] [(.int r_6), (.int r_5), (.int r_4), (.int r_3), (.int (2 : Int32))])) (fun _ k => XS.iload X6.here hx rfl (hb hby at_88) rfl k) ?_
          obtain ⟨_, _, ⟨T54, LC54, kC54, nC54⟩, -, X54, ⟨Lc54, hQ54, lq54, yq54, zq54⟩, st54⟩ := Jvm.LawKit.callS X6 hx (y := oM5) hown (mvT hZ (own_hw hw 4)) (mvT hZ (own_hw hw 5)) (mvT hZ (own_hw hw 2)) (mvT hZ (own_hw hw 6)) (by decide) (backOf (W := 0) (rmk_2 l Z a0 hw [] zc r_3 r_4 r_5 r_6 h0 n0 (by omega) pr1 (by assumption) hl_r_3 hl_r_4 hl_r_5 hl_r_6) hZ (own_hw hw 6) (own_hw hw 2) (by decide) (by decide)) (g := (mkF m 90 #[oi p0, oi p1, oi p2, oi p3, oi p4, oi p5, oi 0, oi f7, oi 2, oi r_3, oi r_4, oi r_5, oi r_6, .unset, .unset] [(.int r_6), (.int r_5), (.int r_4), (.int r_3), (.int (2 : Int32))])) rfl (by rw [hml]; rfl) (argsL := [(.int (2 : Int32)), (.int r_3), (.int r_4), (.int r_5), (.int r_6)]) (rest := []) (lenOf pd_10 rfl) rfl (by show 2 * 0 + _ ≤ _; exact Nat.le_of_eq rfl) (hb hby at_90) (fun _ _ => ⟨rfl, eq6, (by decide : 0 + 3 ≤ _), (by decide : 0 + 8 ≤ _)⟩)
          dsimp only [Pt.U, Pt.locs, Pt.cells, Pt.slots] at X54 lq54 yq54 zq54 st54 hQ54
          subst lq54 yq54 zq54
          obtain ⟨h54, e54⟩ : ∃ z, T54.heap = z := ⟨_, rfl⟩
          rw [e54] at hQ54
          obtain ⟨a1_54, r_54, kr_54, rfl, Nq54, K54, g54_0, g54_1, g54_2, g54_3, g54_4⟩ := hQ54
          have sz54 : h0.size ≤ h54.size := K54.1
          have N54 := Fr.app N6 Nq54
          have lt54_1 : @LT.lt Nat _ a1_54 h54.size := g54_0.lt
          have lt54_2 : @LT.lt Nat _ r_54 h54.size := g54_3.lt
          refine own_go (st' := T54.setTop (mkF m 93 #[oi p0, oi p1, oi p2, oi p3, oi p4, oi p5, oi 0, oi f7, oi 2, oi r_3, oi r_4, oi r_5, oi r_6, .unset, .unset] [(.ref a1_54)])) (fun t k => st54 t k) ?_
          refine own_go (st' := T54.setTop (mkF m 95 #[oi p0, oi p1, oi p2, oi p3, oi p4, oi p5, oi 0, oi f7, oi 2, oi r_3, oi r_4, oi r_5, oi r_6, oR a1_54, .unset] [])) (fun _ k => XS.astore X54.here hx rfl (hb hby at_93) rfl rfl (l' := #[oi p0, oi p1, oi p2, oi p3, oi p4, oi p5, oi 0, oi f7, oi 2, oi r_3, oi r_4, oi r_5, oi r_6, oR a1_54, .unset]) rfl k) ?_
          refine own_go (st' := T54.setTop (mkF m 96 #[oi p0, oi p1, oi p2, oi p3, oi p4, oi p5, oi 0, oi f7, oi 2, oi r_3, oi r_4, oi r_5, oi r_6, oR a1_54, .unset] [.null])) (fun _ k => XS.aconstNull X54.here hx rfl (hb hby at_95) k) ?_
          refine own_go (st' := T54.setTop (mkF m 98 #[oi p0, oi p1, oi p2, oi p3, oi p4, oi p5, oi 0, oi f7, oi 2, oi r_3, oi r_4, oi r_5, oi r_6, oR a1_54, .val .null] [])) (fun _ k => XS.astore X54.here hx rfl (hb hby at_96) rfl rfl (l' := #[oi p0, oi p1, oi p2, oi p3, oi p4, oi p5, oi 0, oi f7, oi 2, oi r_3, oi r_4, oi r_5, oi r_6, oR a1_54, .val .null]) rfl k) ?_
          refine own_go (st' := T54.setTop (mkF m 100 #[oi p0, oi p1, oi p2, oi p3, oi p4, oi p5, oi 0, oi f7, oi 2, oi r_3, oi r_4, oi r_5, oi r_6, oR a1_54, .val .null] [(.int (0 : Int32))])) (fun _ k => XS.iload X54.here hx rfl (hb hby at_98) rfl k) ?_
          have hc55 : (0 : Int32) = (0 : Int32) := by decide
          refine own_go (st' := T54.setTop (mkF m 103 #[oi p0, oi p1, oi p2, oi p3, oi p4, oi p5, oi 0, oi f7, oi 2, oi r_3, oi r_4, oi r_5, oi r_6, oR a1_54, .val .null] [])) (fun _ k => XS.ifNo X54.here hx rfl (hb hby at_100) rfl ((if0 _ _).trans (teq hc55).2) k) ?_
          refine own_go (st' := T54.setTop (mkF m 105 #[oi p0, oi p1, oi p2, oi p3, oi p4, oi p5, oi 0, oi f7, oi 2, oi r_3, oi r_4, oi r_5, oi r_6, oR a1_54, .val .null] [(.int (2 : Int32))])) (fun _ k => XS.iload X54.here hx rfl (hb hby at_103) rfl k) ?_
          refine own_go (st' := T54.setTop (mkF m 106 #[oi p0, oi p1, oi p2, oi p3, oi p4, oi p5, oi 0, oi f7, oi 2, oi r_3, oi r_4, oi r_5, oi r_6, oR a1_54, .val .null] [(.int (3 : Int32)), (.int (2 : Int32))])) (fun _ k => XS.iconst X54.here hx rfl (hb hby at_105) k) ?_
          have hc56 : ¬ ((2 : Int32) = (3 : Int32)) := by decide
          refine own_go (st' := T54.setTop (mkF m 150 #[oi p0, oi p1, oi p2, oi p3, oi p4, oi p5, oi 0, oi f7, oi 2, oi r_3, oi r_4, oi r_5, oi r_6, oR a1_54, .val .null] [])) (fun _ k => XS.icmpYes X54.here hx rfl (pc0 := 106) (pc' := 150) rfl (hb hby at_106) rfl (feq hc56).2 (by decide) (by decide) k) ?_
          refine own_go (st' := T54.setTop (mkF m 152 #[oi p0, oi p1, oi p2, oi p3, oi p4, oi p5, oi 0, oi f7, oi 2, oi r_3, oi r_4, oi r_5, oi r_6, oR a1_54, .val .null] [(.ref a1_54)])) (fun _ k => XS.aload X54.here hx rfl (hb hby at_150) rfl rfl k) ?_
          have c58 : Sta Z h54 oS0 oS3 "Z" (.int zc) := (own_sta_keep pr1 K54 all0)
          have c59 : Sta Z h54 oS1 "$VALUES" oS4 (.ref va) := (own_sta_keep pr2 K54 all0)
          have c60 : Arv Z h54 va kva (.object oS1) (2 : Int32) [(.ref e_1), (.ref e_2)] .null := (pr3.keep K54 nin0)
          have c61 : Exa Z h54 va oS4 := (pr4.keep K54)
          have c62 : Exa Z h54 e_1 oS1 := (pr7.keep K54)
          have c63 : Exa Z h54 e_2 oS1 := (pr8.keep K54)
          have c64 : Fld Z h54 e_1 oS1 "m_sText" oS2 (.ref t_1) := (pr9.keep K54 nin0)
          have c65 : Exa Z h54 t_1 oS0 := (pr10.keep K54)
          have c66 : Fld Z h54 t_1 oS0 "value" "[B" (.ref tv_1) := (pr11.keep K54 nin0)
          have c67 : Fld Z h54 t_1 oS0 "coder" "B" (.int (0 : Int32)) := (pr12.keep K54 nin0)
          have c68 : Arv Z h54 tv_1 tk_1 .byte (3 : Int32) [(.int (49 : Int32)), (.int (46 : Int32)), (.int (48 : Int32))] (.int (0 : Int32)) := (pr13.keep K54 nin0)
          have c69 : Fld Z h54 e_2 oS1 "m_sText" oS2 (.ref t_2) := (pr14.keep K54 nin0)
          have c70 : Exa Z h54 t_2 oS0 := (pr15.keep K54)
          have c71 : Fld Z h54 t_2 oS0 "value" "[B" (.ref tv_2) := (pr16.keep K54 nin0)
          have c72 : Fld Z h54 t_2 oS0 "coder" "B" (.int (0 : Int32)) := (pr17.keep K54 nin0)
          have c73 : Arv Z h54 tv_2 tk_2 .byte (3 : Int32) [(.int (50 : Int32)), (.int (46 : Int32)), (.int (48 : Int32))] (.int (0 : Int32)) := (pr18.keep K54 nin0)
          obtain ⟨_, _, ⟨T57, LC57, kC57, nC57⟩, -, X57, ⟨Lc57, hQ57, lq57, yq57, zq57⟩, st57⟩ := Jvm.LawKit.callS X54 hx (y := oM1) hown (mvT hZ (own_hw hw 37)) (mvT hZ (own_hw hw 38)) (mvT hZ (own_hw hw 39)) (mvT hZ (own_hw hw 40)) (by decide) (backOf (W := 0) (rof_2 l Z a0 hw [] va kva e_1 e_2 t_1 tv_1 tk_1 t_2 tv_2 tk_2 a1_54 r_54 kr_54 (own_by r_3) (own_by r_4) zc h54 n0 (by omega) c58 (by assumption) c59 c60 c61 c62 c63 c64 c65 c66 c67 c68 c69 c70 c71 c72 c73 g54_0 g54_1 g54_2 g54_3 (own_ne (by omega)) (own_ne (by omega))) hZ (own_hw hw 40) (own_hw hw 39) (by decide) (by decide)) (g := (mkF m 152 #[oi p0, oi p1, oi p2, oi p3, oi p4, oi p5, oi 0, oi f7, oi 2, oi r_3, oi r_4, oi r_5, oi r_6, oR a1_54, .val .null] [(.ref a1_54)])) rfl (by rw [hml]; rfl) (argsL := [(.ref a1_54)]) (rest := []) (lenOf pd_11 rfl) rfl (by show 2 * 0 + _ ≤ _; exact Nat.le_of_eq rfl) (hb hby at_152) (fun _ _ => ⟨rfl, e54, (by decide : 3 + 1 ≤ _), (by decide : 8 + 2 ≤ _)⟩)
          dsimp only [Pt.U, Pt.locs, Pt.cells, Pt.slots] at X57 lq57 yq57 zq57 st57 hQ57
          subst lq57 yq57 zq57
          obtain ⟨h57, e57⟩ : ∃ z, T57.heap = z := ⟨_, rfl⟩
          rw [e57] at hQ57
          obtain ⟨rfl, Nq57, K57⟩ := hQ57
          have sz57 : h54.size ≤ h57.size := K57.1
          have N57 := Fr.app N54 Nq57
          refine own_go (st' := T57.setTop (mkF m 155 #[oi p0, oi p1, oi p2, oi p3, oi p4, oi p5, oi 0, oi f7, oi 2, oi r_3, oi r_4, oi r_5, oi r_6, oR a1_54, .val .null] [.null])) (fun t k => st57 t k) ?_
          refine own_go (st' := T57.setTop (mkF m 157 #[oi p0, oi p1, oi p2, oi p3, oi p4, oi p5, oi 0, oi f7, oi 2, oi r_3, oi r_4, oi r_5, oi r_6, oR a1_54, .val .null] [.null, .null])) (fun _ k => XS.aload X57.here hx rfl (hb hby at_155) rfl rfl k) ?_
          refine own_go (st' := T57.setTop (mkF m 160 #[oi p0, oi p1, oi p2, oi p3, oi p4, oi p5, oi 0, oi f7, oi 2, oi r_3, oi r_4, oi r_5, oi r_6, oR a1_54, .val .null] [])) (fun _ k => Jvm.RoadKit.acmp (g := (mkF m 157 #[oi p0, oi p1, oi p2, oi p3, oi p4, oi p5, oi 0, oi f7, oi 2, oi r_3, oi r_4, oi r_5, oi r_6, oR a1_54, .val .null] [.null, .null])) X57 hx rfl rfl rfl (pc0 := 157) (pc' := 160) (same := true) rfl (hb hby at_157) rfl (decide_eq_true rfl) (by decide) (by decide) k) ?_
          refine own_go (st' := T57.setTop (mkF m 161 #[oi p0, oi p1, oi p2, oi p3, oi p4, oi p5, oi 0, oi f7, oi 2, oi r_3, oi r_4, oi r_5, oi r_6, oR a1_54, .val .null] [(.int (1 : Int32))])) (fun _ k => XS.iconst X57.here hx rfl (hb hby at_160) k) ?_
          refine own_go (st' := T57.setTop (mkF m 165 #[oi p0, oi p1, oi p2, oi p3, oi p4, oi p5, oi 0, oi f7, oi 2, oi r_3, oi r_4, oi r_5, oi r_6, oR a1_54, .val .null] [(.int (1 : Int32))])) (fun _ k => XS.goto X57.here hx rfl (pc0 := 161) (pc' := 165) rfl (hb hby at_161) (by decide) (by decide) k) ?_
          obtain ⟨fs, hr, hrun, hended, hR1, hR2, hR3, hR4⟩ := X57.leaveW hSj2 (by rw [e57]; omega) (v := some (.int (1 : Int32))) (fun h => by rw [Bd.returns] at h; cases h)
          refine ⟨_, _, ?_, hP _ _ hrun hended ⟨_, _, rfl, ?_, hR1, hR2, hR3, hR4.mono (by decide) (by decide)⟩⟩
          · exact retN X57 hx (t := .boolean) Bd.returns (by simp) (hb hby at_165) hr
          · show Qrm0 Z p0 p1 p2 p3 p4 p5 va kva e_1 e_2 t_1 tv_1 tk_1 t_2 tv_2 tk_2 zc h0 n0 _ T57.heap _
            rw [e57]
            exact ⟨rfl, N57, trivial⟩
        · --
          refine own_go (st' := T6.setTop (mkF m 82 #[oi p0, oi p1, oi p2, oi p3, oi p4, oi p5, oi 0, oi f7, oi 3, oi r_3, oi r_4, oi r_5, oi r_6, .unset, .unset] [(.int (3 : Int32))])) (fun _ k => XS.iload X6.here hx rfl (hb hby at_80) rfl k) ?_
          refine own_go (st' := T6.setTop (mkF m 84 #[oi p0, oi p1, oi p2, oi p3, oi p4, oi p5, oi 0, oi f7, oi 3, oi r_3, oi r_4, oi r_5, oi r_6, .unset, .unset] [(.int r_3), (.int (3 : Int32))])) (fun _ k => XS.iload X6.here hx rfl (hb hby at_82) rfl k) ?_
          refine own_go (st' := T6.setTop (mkF m 86 #[oi p0, oi p1, oi p2, oi p3, oi p4, oi p5, oi 0, oi f7, oi 3, oi r_3, oi r_4, oi r_5, oi r_6, .unset, .unset] [(.int r_4), (.int r_3), (.int (3 : Int32))])) (fun _ k => XS.iload X6.here hx rfl (hb hby at_84) rfl k) ?_
          refine own_go (st' := T6.setTop (mkF m 88 #[oi p0, oi p1, oi p2, oi p3, oi p4, oi p5, oi 0, oi f7, oi 3, oi r_3, oi r_4, oi r_5, oi r_6, .unset, .unset] [(.int r_5), (.int r_4), (.int r_3), (.int (3 : Int32))])) (fun _ k => XS.iload X6.here hx rfl (hb hby at_86) rfl k) ?_
          refine own_go (st' := T6.setTop (mkF m 90 #[oi p0, oi p1, oi p2, oi p3, oi p4, oi p5, oi 0, oi f7, oi 3, oi r_3, oi r_4, oi r_5, oi r_6, .unset, .unset] [(.int r_6), (.int r_5), (.int r_4), (.int r_3), (.int (3 : Int32))])) (fun _ k => XS.iload X6.here hx rfl (hb hby at_88) rfl k) ?_
          obtain ⟨_, _, ⟨T75, LC75, kC75, nC75⟩, -, X75, ⟨Lc75, hQ75, lq75, yq75, zq75⟩, st75⟩ := Jvm.LawKit.callS X6 hx (y := oM5) hown (mvT hZ (own_hw hw 4)) (mvT hZ (own_hw hw 5)) (mvT hZ (own_hw hw 2)) (mvT hZ (own_hw hw 6)) (by decide) (backOf (W := 0) (rmk_3 l Z a0 hw [] zc r_3 r_4 r_5 r_6 h0 n0 (by omega) pr1 (by assumption) hl_r_3 hl_r_4 hl_r_5 hl_r_6) hZ (own_hw hw 6) (own_hw hw 2) (by decide) (by decide)) (g := (mkF m 90 #[oi p0, oi p1, oi p2, oi p3, oi p4, oi p5, oi 0, oi f7, oi 3, oi r_3, oi r_4, oi r_5, oi r_6, .unset, .unset] [(.int r_6), (.int r_5), (.int r_4), (.int r_3), (.int (3 : Int32))])) rfl (by rw [hml]; rfl) (argsL := [(.int (3 : Int32)), (.int r_3), (.int r_4), (.int r_5), (.int r_6)]) (rest := []) (lenOf pd_10 rfl) rfl (by show 2 * 0 + _ ≤ _; exact Nat.le_of_eq rfl) (hb hby at_90) (fun _ _ => ⟨rfl, eq6, (by decide : 0 + 3 ≤ _), (by decide : 0 + 10 ≤ _)⟩)
          dsimp only [Pt.U, Pt.locs, Pt.cells, Pt.slots] at X75 lq75 yq75 zq75 st75 hQ75
          subst lq75 yq75 zq75
          obtain ⟨h75, e75⟩ : ∃ z, T75.heap = z := ⟨_, rfl⟩
          rw [e75] at hQ75
          obtain ⟨a1_75, r_75, kr_75, rfl, Nq75, K75, g75_0, g75_1, g75_2, g75_3, g75_4⟩ := hQ75
          have sz75 : h0.size ≤ h75.size := K75.1
          have N75 := Fr.app N6 Nq75
          have lt75_1 : @LT.lt Nat _ a1_75 h75.size := g75_0.lt
          have lt75_2 : @LT.lt Nat _ r_75 h75.size := g75_3.lt
          refine own_go (st' := T75.setTop (mkF m 93 #[oi p0, oi p1, oi p2, oi p3, oi p4, oi p5, oi 0, oi f7, oi 3, oi r_3, oi r_4, oi r_5, oi r_6, .unset, .unset] [(.ref a1_75)])) (fun t k => st75 t k) ?_
          refine own_go (st' := T75.setTop (mkF m 95 #[oi p0, oi p1, oi p2, oi p3, oi p4, oi p5, oi 0, oi f7, oi 3, oi r_3, oi r_4, oi r_5, oi r_6, oR a1_75, .unset] [])) (fun _ k => XS.astore X75.here hx rfl (hb hby at_93) rfl rfl (l' := #[oi p0, oi p1, oi p2, oi p3, oi p4, oi p5, oi 0, oi f7, oi 3, oi r_3, oi r_4, oi r_5, oi r_6, oR a1_75, .unset]) rfl k) ?_
          refine own_go (st' := T75.setTop (mkF m 96 #[oi p0, oi p1, oi p2, oi p3, oi p4, oi p5, oi 0, oi f7, oi 3, oi r_3, oi r_4, oi r_5, oi r_6, oR a1_75, .unset] [.null])) (fun _ k => XS.aconstNull X75.here hx rfl (hb hby at_95) k) ?_
          refine own_go (st' := T75.setTop (mkF m 98 #[oi p0, oi p1, oi p2, oi p3, oi p4, oi p5, oi 0, oi f7, oi 3, oi r_3, oi r_4, oi r_5, oi r_6, oR a1_75, .val .null] [])) (fun _ k => XS.astore X75.here hx rfl (hb hby at_96) rfl rfl (l' := #[oi p0, oi p1, oi p2, oi p3, oi p4, oi p5, oi 0, oi f7, oi 3, oi r_3, oi r_4, oi r_5, oi r_6, oR a1_75, .val .null]) rfl k) ?_
          refine own_go (st' := T75.setTop (mkF m 100 #[oi p0, oi p1, oi p2, oi p3, oi p4, oi p5, oi 0, oi f7, oi 3, oi r_3, oi r_4, oi r_5, oi r_6, oR a1_75, .val .null] [(.int (0 : Int32))])) (fun _ k => XS.iload X75.here hx rfl (hb hby at_98) rfl k) ?_
          have hc76 : (0 : Int32) = (0 : Int32) := by decide
          refine own_go (st' := T75.setTop (mkF m 103 #[oi p0, oi p1, oi p2, oi p3, oi p4, oi p5, oi 0, oi f7, oi 3, oi r_3, oi r_4, oi r_5, oi r_6, oR a1_75, .val .null] [])) (fun _ k => XS.ifNo X75.here hx rfl (hb hby at_100) rfl ((if0 _ _).trans (teq hc76).2) k) ?_
          refine own_go (st' := T75.setTop (mkF m 105 #[oi p0, oi p1, oi p2, oi p3, oi p4, oi p5, oi 0, oi f7, oi 3, oi r_3, oi r_4, oi r_5, oi r_6, oR a1_75, .val .null] [(.int (3 : Int32))])) (fun _ k => XS.iload X75.here hx rfl (hb hby at_103) rfl k) ?_
          refine own_go (st' := T75.setTop (mkF m 106 #[oi p0, oi p1, oi p2, oi p3, oi p4, oi p5, oi 0, oi f7, oi 3, oi r_3, oi r_4, oi r_5, oi r_6, oR a1_75, .val .null] [(.int (3 : Int32)), (.int (3 : Int32))])) (fun _ k => XS.iconst X75.here hx rfl (hb hby at_105) k) ?_
          have hc77 : (3 : Int32) = (3 : Int32) := by decide
          refine own_go (st' := T75.setTop (mkF m 109 #[oi p0, oi p1, oi p2, oi p3, oi p4, oi p5, oi 0, oi f7, oi 3, oi r_3, oi r_4, oi r_5, oi r_6, oR a1_75, .val .null] [])) (fun _ k => XS.icmpNo X75.here hx rfl (hb hby at_106) rfl (teq hc77).2 k) ?_
          refine own_go (st' := T75.setTop (mkF m 111 #[oi p0, oi p1, oi p2, oi p3, oi p4, oi p5, oi 0, oi f7, oi 3, oi r_3, oi r_4, oi r_5, oi r_6, oR a1_75, .val .null] [(.int r_4)])) (fun _ k => XS.iload X75.here hx rfl (hb hby at_109) rfl k) ?_
          refine own_go (st' := T75.setTop (mkF m 113 #[oi p0, oi p1, oi p2, oi p3, oi p4, oi p5, oi 0, oi f7, oi 3, oi r_3, oi r_4, oi r_5, oi r_6, oR a1_75, .val .null] [(.int (46 : Int32)), (.int r_4)])) (fun _ k => XS.bipush X75.here hx rfl (hb hby at_111) k) ?_
          by_cases hc78 : r_4 = (46 : Int32)
          · --
            refine own_go (st' := T75.setTop (mkF m 116 #[oi p0, oi p1, oi p2, oi p3, oi p4, oi p5, oi 0, oi f7, oi 3, oi r_3, oi r_4, oi r_5, oi r_6, oR a1_75, .val .null] [])) (fun _ k => XS.icmpNo X75.here hx rfl (hb hby at_113) rfl (teq hc78).2 k) ?_
            refine own_go (st' := T75.setTop (mkF m 118 #[oi p0, oi p1, oi p2, oi p3, oi p4, oi p5, oi 0, oi f7, oi 3, oi r_3, oi r_4, oi r_5, oi r_6, oR a1_75, .val .null] [(.int r_5)])) (fun _ k => XS.iload X75.here hx rfl (hb hby at_116) rfl k) ?_
            refine own_go (st' := T75.setTop (mkF m 120 #[oi p0, oi p1, oi p2, oi p3, oi p4, oi p5, oi 0, oi f7, oi 3, oi r_3, oi r_4, oi r_5, oi r_6, oR a1_75, .val .null] [(.int (48 : Int32)), (.int r_5)])) (fun _ k => XS.bipush X75.here hx rfl (hb hby at_118) k) ?_
            by_cases hc79 : r_5 = (48 : Int32)
            · --
              refine own_go (st' := T75.setTop (mkF m 123 #[oi p0, oi p1, oi p2, oi p3, oi p4, oi p5, oi 0, oi f7, oi 3, oi r_3, oi r_4, oi r_5, oi r_6, oR a1_75, .val .null] [])) (fun _ k => XS.icmpNo X75.here hx rfl (hb hby at_120) rfl (teq hc79).2 k) ?_
              refine own_go (st' := T75.setTop (mkF m 125 #[oi p0, oi p1, oi p2, oi p3, oi p4, oi p5, oi 0, oi f7, oi 3, oi r_3, oi r_4, oi r_5, oi r_6, oR a1_75, .val .null] [(.int r_3)])) (fun _ k => XS.iload X75.here hx rfl (hb hby at_123) rfl k) ?_
              refine own_go (st' := T75.setTop (mkF m 127 #[oi p0, oi p1, oi p2, oi p3, oi p4, oi p5, oi 0, oi f7, oi 3, oi r_3, oi r_4, oi r_5, oi r_6, oR a1_75, .val .null] [(.int (49 : Int32)), (.int r_3)])) (fun _ k => XS.bipush X75.here hx rfl (hb hby at_125) k) ?_
              by_cases hc80 : r_3 = (49 : Int32)
              · --
                refine own_go (st' := T75.setTop (mkF m 130 #[oi p0, oi p1, oi p2, oi p3, oi p4, oi p5, oi 0, oi f7, oi 3, oi r_3, oi r_4, oi r_5, oi r_6, oR a1_75, .val .null] [])) (fun _ k => XS.icmpNo X75.here hx rfl (hb hby at_127) rfl (teq hc80).2 k) ?_
                have c81 : Sta Z h75 oS1 "V1_0" oS7 (.ref e_1) := (own_sta_keep pr5 K75 all0)
                obtain ⟨T82, X82, e82, st82⟩ := getS2 X75 hx hZ hown (host := "") (Or.inl (own_hw hw 77)) Via.refl e75 c81 (g := (mkF m 130 #[oi p0, oi p1, oi p2, oi p3, oi p4, oi p5, oi 0, oi f7, oi 3, oi r_3, oi r_4, oi r_5, oi r_6, oR a1_75, .val .null] [])) rfl (hb hby at_130)
                refine own_go (st' := T82.setTop (mkF m 133 #[oi p0, oi p1, oi p2, oi p3, oi p4, oi p5, oi 0, oi f7, oi 3, oi r_3, oi r_4, oi r_5, oi r_6, oR a1_75, .val .null] [(.ref e_1)])) (st82) ?_
                refine own_go (st' := T82.setTop (mkF m 135 #[oi p0, oi p1, oi p2, oi p3, oi p4, oi p5, oi 0, oi f7, oi 3, oi r_3, oi r_4, oi r_5, oi r_6, oR a1_75, oR e_1] [])) (fun _ k => XS.astore X82.here hx rfl (hb hby at_133) rfl rfl (l' := #[oi p0, oi p1, oi p2, oi p3, oi p4, oi p5, oi 0, oi f7, oi 3, oi r_3, oi r_4, oi r_5, oi r_6, oR a1_75, oR e_1]) rfl k) ?_
                refine own_go (st' := T82.setTop (mkF m 150 #[oi p0, oi p1, oi p2, oi p3, oi p4, oi p5, oi 0, oi f7, oi 3, oi r_3, oi r_4, oi r_5, oi r_6, oR a1_75, oR e_1] [])) (fun _ k => XS.goto X82.here hx rfl (pc0 := 135) (pc' := 150) rfl (hb hby at_135) (by decide) (by decide) k) ?_
                refine own_go (st' := T82.setTop (mkF m 152 #[oi p0, oi p1, oi p2, oi p3, oi p4, oi p5, oi 0, oi f7, oi 3, oi r_3, oi r_4, oi r_5, oi r_6, oR a1_75, oR e_1] [(.ref a1_75)])) (fun _ k => XS.aload X82.here hx rfl (hb hby at_150) rfl rfl k) ?_
                have c84 : Sta Z h75 oS0 oS3 "Z" (.int zc) := (own_sta_keep pr1 K75 all0)
                have c85 : Sta Z h75 oS1 "$VALUES" oS4 (.ref va) := (own_sta_keep pr2 K75 all0)
                have c86 : Arv Z h75 va kva (.object oS1) (2 : Int32) [(.ref e_1), (.ref e_2)] .null := (pr3.keep K75 nin0)
                have c87 : Exa Z h75 va oS4 := (pr4.keep K75)
                have c88 : Exa Z h75 e_1 oS1 := (pr7.keep K75)
                have c89 : Exa Z h75 e_2 oS1 := (pr8.keep K75)
                have c90 : Fld Z h75 e_1 oS1 "m_sText" oS2 (.ref t_1) := (pr9.keep K75 nin0)
                have c91 : Exa Z h75 t_1 oS0 := (pr10.keep K75)
                have c92 : Fld Z h75 t_1 oS0 "value" "[B" (.ref tv_1) := (pr11.keep K75 nin0)
                have c93 : Fld Z h75 t_1 oS0 "coder" "B" (.int (0 : Int32)) := (pr12.keep K75 nin0)
                have c94 : Arv Z h75 tv_1 tk_1 .byte (3 : Int32) [(.int (49 : Int32)), (.int (46 : Int32)), (.int (48 : Int32))] (.int (0 : Int32)) := (pr13.keep K75 nin0)
                have c95 : Fld Z h75 e_2 oS1 "m_sText" oS2 (.ref t_2) := (pr14.keep K75 nin0)
                have c96 : Exa Z h75 t_2 oS0 := (pr15.keep K75)
                have c97 : Fld Z h75 t_2 oS0 "value" "[B" (.ref tv_2) := (pr16.keep K75 nin0)
                have c98 : Fld Z h75 t_2 oS0 "coder" "B" (.int (0 : Int32)) := (pr17.keep K75 nin0)
                have c99 : Arv Z h75 tv_2 tk_2 .byte (3 : Int32) [(.int (50 : Int32)), (.int (46 : Int32)), (.int (48 : Int32))] (.int (0 : Int32)) := (pr18.keep K75 nin0)
                obtain ⟨_, _, ⟨T83, LC83, kC83, nC83⟩, -, X83, ⟨Lc83, hQ83, lq83, yq83, zq83⟩, st83⟩ := Jvm.LawKit.callS X82 hx (y := oM1) hown (mvT hZ (own_hw hw 37)) (mvT hZ (own_hw hw 38)) (mvT hZ (own_hw hw 39)) (mvT hZ (own_hw hw 40)) (by decide) (backOf (W := 0) (rof_3 l Z a0 hw [] va kva e_1 e_2 t_1 tv_1 tk_1 t_2 tv_2 tk_2 a1_75 r_75 kr_75 (own_by r_3) (own_by r_4) (own_by r_5) zc h75 n0 (by omega) c84 (by assumption) c85 c86 c87 c88 c89 c90 c91 c92 c93 c94 c95 c96 c97 c98 c99 g75_0 g75_1 g75_2 g75_3 (own_ne (by omega)) (own_ne (by omega))) hZ (own_hw hw 40) (own_hw hw 39) (by decide) (by decide)) (g := (mkF m 152 #[oi p0, oi p1, oi p2, oi p3, oi p4, oi p5, oi 0, oi f7, oi 3, oi r_3, oi r_4, oi r_5, oi r_6, oR a1_75, oR e_1] [(.ref a1_75)])) rfl (by rw [hml]; rfl) (argsL := [(.ref a1_75)]) (rest := []) (lenOf pd_11 rfl) rfl (by show 2 * 0 + _ ≤ _; exact Nat.le_of_eq rfl) (hb hby at_152) (fun _ _ => ⟨rfl, e82, (by decide : 3 + 1 ≤ _), (by decide : 10 + 2 ≤ _)⟩)
                dsimp only [Pt.U, Pt.locs, Pt.cells, Pt.slots] at X83 lq83 yq83 zq83 st83 hQ83
                subst lq83 yq83 zq83
                obtain ⟨h83, e83⟩ : ∃ z, T83.heap = z := ⟨_, rfl⟩
                rw [e83] at hQ83
                obtain ⟨rfl, Nq83, K83⟩ := hQ83
                have sz83 : h75.size ≤ h83.size := K83.1
                have N83 := Fr.app N75 Nq83
                refine own_go (st' := T83.setTop (mkF m 155 #[oi p0, oi p1, oi p2, oi p3, oi p4, oi p5, oi 0, oi f7, oi 3, oi r_3, oi r_4, oi r_5, oi r_6, oR a1_75, oR e_1] [(own_of (own_by r_3) (own_by r_4) (own_by r_5) e_1 e_2)])) (fun t k => st83 t k) ?_
                refine own_go (st' := T83.setTop (mkF m 157 #[oi p0, oi p1, oi p2, oi p3, oi p4, oi p5, oi 0, oi f7, oi 3, oi r_3, oi r_4, oi r_5, oi r_6, oR a1_75, oR e_1] [(.ref e_1), (own_of (own_by r_3) (own_by r_4) (own_by r_5) e_1 e_2)])) (fun _ k => XS.aload X83.here hx rfl (hb hby at_155) rfl rfl k) ?_
                have hc100 : (own_of (own_by r_3) (own_by r_4) (own_by r_5) e_1 e_2) = (.ref e_1) := (own_of_eval hl_r_3 hl_r_4 hl_r_5 _ _).trans ((if_pos ⟨hc78, hc79⟩).trans (if_pos hc80))
                refine own_go (st' := T83.setTop (mkF m 160 #[oi p0, oi p1, oi p2, oi p3, oi p4, oi p5, oi 0, oi f7, oi 3, oi r_3, oi r_4, oi r_5, oi r_6, oR a1_75, oR e_1] [])) (fun _ k => Jvm.RoadKit.acmp (g := (mkF m 157 #[oi p0, oi p1, oi p2, oi p3, oi p4, oi p5, oi 0, oi f7, oi 3, oi r_3, oi r_4, oi r_5, oi r_6, oR a1_75, oR e_1] [(.ref e_1), (own_of (own_by r_3) (own_by r_4) (own_by r_5) e_1 e_2)])) X83 hx rfl (own_of_ref (own_by r_3) (own_by r_4) (own_by r_5) e_1 e_2) rfl (pc0 := 157) (pc' := 160) (same := true) rfl (hb hby at_157) rfl (decide_eq_true hc100) (by decide) (by decide) k) ?_
                refine own_go (st' := T83.setTop (mkF m 161 #[oi p0, oi p1, oi p2, oi p3, oi p4, oi p5, oi 0, oi f7, oi 3, oi r_3, oi r_4, oi r_5, oi r_6, oR a1_75, oR e_1] [(.int (1 : Int32))])) (fun _ k => XS.iconst X83.here hx rfl (hb hby at_160) k) ?_
                refine own_go (st' := T83.setTop (mkF m 165 #[oi p0, oi p1, oi p2, oi p3, oi p4, oi p5, oi 0, oi f7, oi 3, oi r_3, oi r_4, oi r_5, oi r_6, oR a1_75, oR e_1] [(.int (1 : Int32))])) (fun _ k => XS.goto X83.here hx rfl (pc0 := 161) (pc' := 165) rfl (hb hby at_161) (by decide) (by decide) k) ?_
                obtain ⟨fs, hr, hrun, hended, hR1, hR2, hR3, hR4⟩ := X83.leaveW hSj2 (by rw [e83]; omega) (v := some (.int (1 : Int32))) (fun h => by rw [Bd.returns] at h; cases h)
                refine ⟨_, _, ?_, hP _ _ hrun hended ⟨_, _, rfl, ?_, hR1, hR2, hR3, hR4.mono (by decide) (by decide)⟩⟩
                · exact retN X83 hx (t := .boolean) Bd.returns (by simp) (hb hby at_165) hr
                · show Qrm0 Z p0 p1 p2 p3 p4 p5 va kva e_1 e_2 t_1 tv_1 tk_1 t_2 tv_2 tk_2 zc h0 n0 _ T83.heap _
                  rw [e83]
                  exact ⟨rfl, N83, trivial⟩
              · --
                refine own_go (st' := T75.setTop (mkF m 138 #[oi p0, oi p1, oi p2, oi p3, oi p4, oi p5, oi 0, oi f7, oi 3, oi r_3, oi r_4, oi r_5, oi r_6, oR a1_75, .val .null] [])) (fun _ k => XS.icmpYes X75.here hx rfl (pc0 := 127) (pc' := 138) rfl (hb hby at_127) rfl (feq hc80).2 (by decide) (by decide) k) ?_
                refine own_go (st' := T75.setTop (mkF m 140 #[oi p0, oi p1, oi p2, oi p3, oi p4, oi p5, oi 0, oi f7, oi 3, oi r_3, oi r_4, oi r_5, oi r_6, oR a1_75, .val .null] [(.int r_3)])) (fun _ k => XS.iload X75.here hx rfl (hb hby at_138) rfl k) ?_
                refine own_go (st' := T75.setTop (mkF m 142 #[oi p0, oi p1, oi p2, oi p3, oi p4, oi p5, oi 0, oi f7, oi 3, oi r_3, oi r_4, oi r_5, oi r_6, oR a1_75, .val .null] [(.int (50 : Int32)), (.int r_3)])) (fun _ k => XS.bipush X75.here hx rfl (hb hby at_140) k) ?_
                by_cases hc102 : r_3 = (50 : Int32)
                · --
                  refine own_go (st' := T75.setTop (mkF m 145 #[oi p0, oi p1, oi p2, oi p3, oi p4, oi p5, oi 0, oi f7, oi 3, oi r_3, oi r_4, oi r_5, oi r_6, oR a1_75, .val .null] [])) (fun _ k => XS.icmpNo X75.here hx rfl (hb hby at_142) rfl (teq hc102).2 k) ?_
                  have c103 : Sta Z h75 oS1 "V2_0" oS7 (.ref e_2) := (own_sta_keep pr6 K75 all0)
                  obtain ⟨T104, X104, e104, st104⟩ := getS2 X75 hx hZ hown (host := "") (Or.inl (own_hw hw 76)) Via.refl e75 c103 (g := (mkF m 145 #[oi p0, oi p1, oi p2, oi p3, oi p4, oi p5, oi 0, oi f7, oi 3, oi r_3, oi r_4, oi r_5, oi r_6, oR a1_75, .val .null] [])) rfl (hb hby at_145)
                  refine own_go (st' := T104.setTop (mkF m 148 #[oi p0, oi p1, oi p2, oi p3, oi p4, oi p5, oi 0, oi f7, oi 3, oi r_3, oi r_4, oi r_5, oi r_6, oR a1_75, .val .null] [(.ref e_2)])) (st104) ?_
                  refine own_go (st' := T104.setTop (mkF m 150 #[oi p0, oi p1, oi p2, oi p3, oi p4, oi p5, oi 0, oi f7, oi 3, oi r_3, oi r_4, oi r_5, oi r_6, oR a1_75, oR e_2] [])) (fun _ k => XS.astore X104.here hx rfl (hb hby at_148) rfl rfl (l' := #[oi p0, oi p1, oi p2, oi p3, oi p4, oi p5, oi 0, oi f7, oi 3, oi r_3, oi r_4, oi r_5, oi r_6, oR a1_75, oR e_2]) rfl k) ?_
                  refine own_go (st' := T104.setTop (mkF m 152 #[oi p0, oi p1, oi p2, oi p3, oi p4, oi p5, oi 0, oi f7, oi 3, oi r_3, oi r_4, oi r_5, oi r_6, oR a1_75, oR e_2] [(.ref a1_75)])) (fun _ k => XS.aload X104.here hx rfl (hb hby at_150) rfl rfl k) ?_
                  have c106 : Sta Z h75 oS0 oS3 "Z" (.int zc) := (own_sta_keep pr1 K75 all0)
                  have c107 : Sta Z h75 oS1 "$VALUES" oS4 (.ref va) := (own_sta_keep pr2 K75 all0)
                  have c108 : Arv Z h75 va kva (.object oS1) (2 : Int32) [(.ref e_1), (.ref e_2)] .null := (pr3.keep K75 nin0)
                  have c109 : Exa Z h75 va oS4 := (pr4.keep K75)
                  have c110 : Exa Z h75 e_1 oS1 := (pr7.keep K75)
                  have c111 : Exa Z h75 e_2 oS1 := (pr8.keep K75)
                  have c112 : Fld Z h75 e_1 oS1 "m_sText" oS2 (.ref t_1) := (pr9.keep K75 nin0)
                  have c113 : Exa Z h75 t_1 oS0 := (pr10.keep K75)
                  have c114 : Fld Z h75 t_1 oS0 "value" "[B" (.ref tv_1) := (pr11.keep K75 nin0)
                  have c115 : Fld Z h75 t_1 oS0 "coder" "B" (.int (0 : Int32)) := (pr12.keep K75 nin0)
                  have c116 : Arv Z h75 tv_1 tk_1 .byte (3 : Int32) [(.int (49 : Int32)), (.int (46 : Int32)), (.int (48 : Int32))] (.int (0 : Int32)) := (pr13.keep K75 nin0)
                  have c117 : Fld Z h75 e_2 oS1 "m_sText" oS2 (.ref t_2) := (pr14.keep K75 nin0)
                  have c118 : Exa Z h75 t_2 oS0 := (pr15.keep K75)
                  have c119 : Fld Z h75 t_2 oS0 "value" "[B" (.ref tv_2) := (pr16.keep K75 nin0)
                  have c120 : Fld Z h75 t_2 oS0 "coder" "B" (.int (0 : Int32)) := (pr17.keep K75 nin0)
                  have c121 : Arv Z h75 tv_2 tk_2 .byte (3 : Int32) [(.int (50 : Int32)), (.int (46 : Int32)), (.int (48 : Int32))] (.int (0 : Int32)) := (pr18.keep K75 nin0)
                  obtain ⟨_, _, ⟨T105, LC105, kC105, nC105⟩, -, X105, ⟨Lc105, hQ105, lq105, yq105, zq105⟩, st105⟩ := Jvm.LawKit.callS X104 hx (y := oM1) hown (mvT hZ (own_hw hw 37)) (mvT hZ (own_hw hw 38)) (mvT hZ (own_hw hw 39)) (mvT hZ (own_hw hw 40)) (by decide) (backOf (W := 0) (rof_3 l Z a0 hw [] va kva e_1 e_2 t_1 tv_1 tk_1 t_2 tv_2 tk_2 a1_75 r_75 kr_75 (own_by r_3) (own_by r_4) (own_by r_5) zc h75 n0 (by omega) c106 (by assumption) c107 c108 c109 c110 c111 c112 c113 c114 c115 c116 c117 c118 c119 c120 c121 g75_0 g75_1 g75_2 g75_3 (own_ne (by omega)) (own_ne (by omega))) hZ (own_hw hw 40) (own_hw hw 39) (by decide) (by decide)) (g := (mkF m 152 #[oi p0, oi p1, oi p2, oi p3, oi p4, oi p5, oi 0, oi f7, oi 3, oi r_3, oi r_4, oi r_5, oi r_6, oR a1_75, oR e_2] [(.ref a1_75)])) rfl (by rw [hml]; rfl) (argsL := [(.ref a1_75)]) (rest := []) (lenOf pd_11 rfl) rfl (by show 2 * 0 + _ ≤ _; exact Nat.le_of_eq rfl) (hb hby at_152) (fun _ _ => ⟨rfl, e104, (by decide : 3 + 1 ≤ _), (by decide : 10 + 2 ≤ _)⟩)
                  dsimp only [Pt.U, Pt.locs, Pt.cells, Pt.slots] at X105 lq105 yq105 zq105 st105 hQ105
                  subst lq105 yq105 zq105
                  obtain ⟨h105, e105⟩ : ∃ z, T105.heap = z := ⟨_, rfl⟩
                  rw [e105] at hQ105
                  obtain ⟨rfl, Nq105, K105⟩ := hQ105
                  have sz105 : h75.size ≤ h105.size := K105.1
                  have N105 := Fr.app N75 Nq105
                  refine own_go (st' := T105.setTop (mkF m 155 #[oi p0, oi p1, oi p2, oi p3, oi p4, oi p5, oi 0, oi f7, oi 3, oi r_3, oi r_4, oi r_5, oi r_6, oR a1_75, oR e_2] [(own_of (own_by r_3) (own_by r_4) (own_by r_5) e_1 e_2)])) (fun t k => st105 t k) ?_
                  refine own_go (st' := T105.setTop (mkF m 157 #[oi p0, oi p1, oi p2, oi p3, oi p4, oi p5, oi 0, oi f7, oi 3, oi r_3, oi r_4, oi r_5, oi r_6, oR a1_75, oR e_2] [(.ref e_2), (own_of (own_by r_3) (own_by r_4) (own_by r_5) e_1 e_2)])) (fun _ k => XS.aload X105.here hx rfl (hb hby at_155) rfl rfl k) ?_
                  have hc122 : (own_of (own_by r_3) (own_by r_4) (own_by r_5) e_1 e_2) = (.ref e_2) := (own_of_eval hl_r_3 hl_r_4 hl_r_5 _ _).trans ((if_pos ⟨hc78, hc79⟩).trans ((if_neg hc80).trans (if_pos hc102)))
                  refine own_go (st' := T105.setTop (mkF m 160 #[oi p0, oi p1, oi p2, oi p3, oi p4, oi p5, oi 0, oi f7, oi 3, oi r_3, oi r_4, oi r_5, oi r_6, oR a1_75, oR e_2] [])) (fun _ k => Jvm.RoadKit.acmp (g := (mkF m 157 #[oi p0, oi p1, oi p2, oi p3, oi p4, oi p5, oi 0, oi f7, oi 3, oi r_3, oi r_4, oi r_5, oi r_6, oR a1_75, oR e_2] [(.ref e_2), (own_of (own_by r_3) (own_by r_4) (own_by r_5) e_1 e_2)])) X105 hx rfl (own_of_ref (own_by r_3) (own_by r_4) (own_by r_5) e_1 e_2) rfl (pc0 := 157) (pc' := 160) (same := true) rfl (hb hby at_157) rfl (decide_eq_true hc122) (by decide) (by decide) k) ?_
                  refine own_go (st' := T105.setTop (mkF m 161 #[oi p0, oi p1, oi p2, oi p3, oi p4, oi p5, oi 0, oi f7, oi 3, oi r_3, oi r_4, oi r_5, oi r_6, oR a1_75, oR e_2] [(.int (1 : Int32))])) (fun _ k => XS.iconst X105.here hx rfl (hb hby at_160) k) ?_
                  refine own_go (st' := T105.setTop (mkF m 165 #[oi p0, oi p1, oi p2, oi p3, oi p4, oi p5, oi 0, oi f7, oi 3, oi r_3, oi r_4, oi r_5, oi r_6, oR a1_75, oR e_2] [(.int (1 : Int32))])) (fun _ k => XS.goto X105.here hx rfl (pc0 := 161) (pc' := 165) rfl (hb hby at_161) (by decide) (by decide) k) ?_
                  obtain ⟨fs, hr, hrun, hended, hR1, hR2, hR3, hR4⟩ := X105.leaveW hSj2 (by rw [e105]; omega) (v := some (.int (1 : Int32))) (fun h => by rw [Bd.returns] at h; cases h)
                  refine ⟨_, _, ?_, hP _ _ hrun hended ⟨_, _, rfl, ?_, hR1, hR2, hR3, hR4.mono (by decide) (by decide)⟩⟩
                  · exact retN X105 hx (t := .boolean) Bd.returns (by simp) (hb hby at_165) hr
                  · show Qrm0 Z p0 p1 p2 p3 p4 p5 va kva e_1 e_2 t_1 tv_1 tk_1 t_2 tv_2 tk_2 zc h0 n0 _ T105.heap _
                    rw [e105]
                    exact ⟨rfl, N105, trivial⟩
                · --
                  refine own_go (st' := T75.setTop (mkF m 150 #[oi p0, oi p1, oi p2, oi p3, oi p4, oi p5, oi 0, oi f7, oi 3, oi r_3, oi r_4, oi r_5, oi r_6, oR a1_75, .val .null] [])) (fun _ k => XS.icmpYes X75.here hx rfl (pc0 := 142) (pc' := 150) rfl (hb hby at_142) rfl (feq hc102).2 (by decide) (by decide) k) ?_
                  refine own_go (st' := T75.setTop (mkF m 152 #[oi p0, oi p1, oi p2, oi p3, oi p4, oi p5, oi 0, oi f7, oi 3, oi r_3, oi r_4, oi r_5, oi r_6, oR a1_75, .val .null] [(.ref a1_75)])) (fun _ k => XS.aload X75.here hx rfl (hb hby at_150) rfl rfl k) ?_
                  have c125 : Sta Z h75 oS0 oS3 "Z" (.int zc) := (own_sta_keep pr1 K75 all0)
                  have c126 : Sta Z h75 oS1 "$VALUES" oS4 (.ref va) := (own_sta_keep pr2 K75 all0)
                  have c127 : Arv Z h75 va kva (.object oS1) (2 : Int32) [(.ref e_1), (.ref e_2)] .null := (pr3.keep K75 nin0)
                  have c128 : Exa Z h75 va oS4 := (pr4.keep K75)
                  have c129 : Exa Z h75 e_1 oS1 := (pr7.keep K75)
                  have c130 : Exa Z h75 e_2 oS1 := (pr8.keep K75)
                  have c131 : Fld Z h75 e_1 oS1 "m_sText" oS2 (.ref t_1) := (pr9.keep K75 nin0)
                  have c132 : Exa Z h75 t_1 oS0 := (pr10.keep K75)
                  have c133 : Fld Z h75 t_1 oS0 "value" "[B" (.ref tv_1) := (pr11.keep K75 nin0)
                  have c134 : Fld Z h75 t_1 oS0 "coder" "B" (.int (0 : Int32)) := (pr12.keep K75 nin0)
                  have c135 : Arv Z h75 tv_1 tk_1 .byte (3 : Int32) [(.int (49 : Int32)), (.int (46 : Int32)), (.int (48 : Int32))] (.int (0 : Int32)) := (pr13.keep K75 nin0)
                  have c136 : Fld Z h75 e_2 oS1 "m_sText" oS2 (.ref t_2) := (pr14.keep K75 nin0)
                  have c137 : Exa Z h75 t_2 oS0 := (pr15.keep K75)
                  have c138 : Fld Z h75 t_2 oS0 "value" "[B" (.ref tv_2) := (pr16.keep K75 nin0)
                  have c139 : Fld Z h75 t_2 oS0 "coder" "B" (.int (0 : Int32)) := (pr17.keep K75 nin0)
                  have c140 : Arv Z h75 tv_2 tk_2 .byte (3 : Int32) [(.int (50 : Int32)), (.int (46 : Int32)), (.int (48 : Int32))] (.int (0 : Int32)) := (pr18.keep K75 nin0)
                  obtain ⟨_, _, ⟨T124, LC124, kC124, nC124⟩, -, X124, ⟨Lc124, hQ124, lq124, yq124, zq124⟩, st124⟩ := Jvm.LawKit.callS X75 hx (y := oM1) hown (mvT hZ (own_hw hw 37)) (mvT hZ (own_hw hw 38)) (mvT hZ (own_hw hw 39)) (mvT hZ (own_hw hw 40)) (by decide) (backOf (W := 0) (rof_3 l Z a0 hw [] va kva e_1 e_2 t_1 tv_1 tk_1 t_2 tv_2 tk_2 a1_75 r_75 kr_75 (own_by r_3) (own_by r_4) (own_by r_5) zc h75 n0 (by omega) c125 (by assumption) c126 c127 c128 c129 c130 c131 c132 c133 c134 c135 c136 c137 c138 c139 c140 g75_0 g75_1 g75_2 g75_3 (own_ne (by omega)) (own_ne (by omega))) hZ (own_hw hw 40) (own_hw hw 39) (by decide) (by decide)) (g := (mkF m 152 #[oi p0, oi p1, oi p2, oi p3, oi p4, oi p5, oi 0, oi f7, oi 3, oi r_3, oi r_4, oi r_5, oi r_6, oR a1_75, .val .null] [(.ref a1_75)])) rfl (by rw [hml]; rfl) (argsL := [(.ref a1_75)]) (rest := []) (lenOf pd_11 rfl) rfl (by show 2 * 0 + _ ≤ _; exact Nat.le_of_eq rfl) (hb hby at_152) (fun _ _ => ⟨rfl, e75, (by decide : 3 + 1 ≤ _), (by decide : 10 + 2 ≤ _)⟩)
                  dsimp only [Pt.U, Pt.locs, Pt.cells, Pt.slots] at X124 lq124 yq124 zq124 st124 hQ124
                  subst lq124 yq124 zq124
                  obtain ⟨h124, e124⟩ : ∃ z, T124.heap = z := ⟨_, rfl⟩
                  rw [e124] at hQ124
                  obtain ⟨rfl, Nq124, K124⟩ := hQ124
                  have sz124 : h75.size ≤ h124.size := K124.1
                  have N124 := Fr.app N75 Nq124
                  refine own_go (st' := T124.setTop (mkF m 155 #[oi p0, oi p1, oi p2, oi p3, oi p4, oi p5, oi 0, oi f7, oi 3, oi r_3, oi r_4, oi r_5, oi r_6, oR a1_75, .val .null] [(own_of (own_by r_3) (own_by r_4) (own_by r_5) e_1 e_2)])) (fun t k => st124 t k) ?_
                  refine own_go (st' := T124.setTop (mkF m 157 #[oi p0, oi p1, oi p2, oi p3, oi p4, oi p5, oi 0, oi f7, oi 3, oi r_3, oi r_4, oi r_5, oi r_6, oR a1_75, .val .null] [.null, (own_of (own_by r_3) (own_by r_4) (own_by r_5) e_1 e_2)])) (fun _ k => XS.aload X124.here hx rfl (hb hby at_155) rfl rfl k) ?_
                  have hc141 : (own_of (own_by r_3) (own_by r_4) (own_by r_5) e_1 e_2) = .null := (own_of_eval hl_r_3 hl_r_4 hl_r_5 _ _).trans ((if_pos ⟨hc78, hc79⟩).trans ((if_neg hc80).trans (if_neg hc102)))
                  refine own_go (st' := T124.setTop (mkF m 160 #[oi p0, oi p1, oi p2, oi p3, oi p4, oi p5, oi 0, oi f7, oi 3, oi r_3, oi r_4, oi r_5, oi r_6, oR a1_75, .val .null] [])) (fun _ k => Jvm.RoadKit.acmp (g := (mkF m 157 #[oi p0, oi p1, oi p2, oi p3, oi p4, oi p5, oi 0, oi f7, oi 3, oi r_3, oi r_4, oi r_5, oi r_6, oR a1_75, .val .null] [.null, (own_of (own_by r_3) (own_by r_4) (own_by r_5) e_1 e_2)])) X124 hx rfl (own_of_ref (own_by r_3) (own_by r_4) (own_by r_5) e_1 e_2) rfl (pc0 := 157) (pc' := 160) (same := true) rfl (hb hby at_157) rfl (decide_eq_true hc141) (by decide) (by decide) k) ?_
                  refine own_go (st' := T124.setTop (mkF m 161 #[oi p0, oi p1, oi p2, oi p3, oi p4, oi p5, oi 0, oi f7, oi 3, oi r_3, oi r_4, oi r_5, oi r_6, oR a1_75, .val .null] [(.int (1 : Int32))])) (fun _ k => XS.iconst X124.here hx rfl (hb hby at_160) k) ?_
                  refine own_go (st' := T124.setTop (mkF m 165 #[oi p0, oi p1, oi p2, oi p3, oi p4, oi p5, oi 0, oi f7, oi 3, oi r_3, oi r_4, oi r_5, oi r_6, oR a1_75, .val .null] [(.int (1 : Int32))])) (fun _ k => XS.goto X124.here hx rfl (pc0 := 161) (pc' := 165) rfl (hb hby at_161) (by decide) (by decide) k) ?_
                  obtain ⟨fs, hr, hrun, hended, hR1, hR2, hR3, hR4⟩ := X124.leaveW hSj2 (by rw [e124]; omega) (v := some (.int (1 : Int32))) (fun h => by rw [Bd.returns] at h; cases h)
                  refine ⟨_, _, ?_, hP _ _ hrun hended ⟨_, _, rfl, ?_, hR1, hR2, hR3, hR4.mono (by decide) (by decide)⟩⟩
                  · exact retN X124 hx (t := .boolean) Bd.returns (by simp) (hb hby at_165) hr
                  · show Qrm0 Z p0 p1 p2 p3 p4 p5 va kva e_1 e_2 t_1 tv_1 tk_1 t_2 tv_2 tk_2 zc h0 n0 _ T124.heap _
                    rw [e124]
                    exact ⟨rfl, N124, trivial⟩
            · --
              refine own_go (st' := T75.setTop (mkF m 150 #[oi p0, oi p1, oi p2, oi p3, oi p4, oi p5, oi 0, oi f7, oi 3, oi r_3, oi r_4, oi r_5, oi r_6, oR a1_75, .val .null] [])) (fun _ k => XS.icmpYes X75.here hx rfl (pc0 := 120) (pc' := 150) rfl (hb hby at_120) rfl (feq hc79).2 (by decide) (by decide) k) ?_
              refine own_go (st' := T75.setTop (mkF m 152 #[oi p0, oi p1, oi p2, oi p3, oi p4, oi p5, oi 0, oi f7, oi 3, oi r_3, oi r_4, oi r_5, oi r_6, oR a1_75, .val .null] [(.ref a1_75)])) (fun _ k => XS.aload X75.here hx rfl (hb hby at_150) rfl rfl k) ?_
              have c144 : Sta Z h75 oS0 oS3 "Z" (.int zc) := (own_sta_keep pr1 K75 all0)
              have c145 : Sta Z h75 oS1 "$VALUES" oS4 (.ref va) := (own_sta_keep pr2 K75 all0)
              have c146 : Arv Z h75 va kva (.object oS1) (2 : Int32) [(.ref e_1), (.ref e_2)] .null := (pr3.keep K75 nin0)
              have c147 : Exa Z h75 va oS4 := (pr4.keep K75)
              have c148 : Exa Z h75 e_1 oS1 := (pr7.keep K75)
              have c149 : Exa Z h75 e_2 oS1 := (pr8.keep K75)
              have c150 : Fld Z h75 e_1 oS1 "m_sText" oS2 (.ref t_1) := (pr9.keep K75 nin0)
              have c151 : Exa Z h75 t_1 oS0 := (pr10.keep K75)
              have c152 : Fld Z h75 t_1 oS0 "value" "[B" (.ref tv_1) := (pr11.keep K75 nin0)
              have c153 : Fld Z h75 t_1 oS0 "coder" "B" (.int (0 : Int32)) := (pr12.keep K75 nin0)
              have c154 : Arv Z h75 tv_1 tk_1 .byte (3 : Int32) [(.int (49 : Int32)), (.int (46 : Int32)), (.int (48 : Int32))] (.int (0 : Int32)) := (pr13.keep K75 nin0)
              have c155 : Fld Z h75 e_2 oS1 "m_sText" oS2 (.ref t_2) := (pr14.keep K75 nin0)
              have c156 : Exa Z h75 t_2 oS0 := (pr15.keep K75)
              have c157 : Fld Z h75 t_2 oS0 "value" "[B" (.ref tv_2) := (pr16.keep K75 nin0)
              have c158 : Fld Z h75 t_2 oS0 "coder" "B" (.int (0 : Int32)) := (pr17.keep K75 nin0)
              have c159 : Arv Z h75 tv_2 tk_2 .byte (3 : Int32) [(.int (50 : Int32)), (.int (46 : Int32)), (.int (48 : Int32))] (.int (0 : Int32)) := (pr18.keep K75 nin0)
              obtain ⟨_, _, ⟨T143, LC143, kC143, nC143⟩, -, X143, ⟨Lc143, hQ143, lq143, yq143, zq143⟩, st143⟩ := Jvm.LawKit.callS X75 hx (y := oM1) hown (mvT hZ (own_hw hw 37)) (mvT hZ (own_hw hw 38)) (mvT hZ (own_hw hw 39)) (mvT hZ (own_hw hw 40)) (by decide) (backOf (W := 0) (rof_3 l Z a0 hw [] va kva e_1 e_2 t_1 tv_1 tk_1 t_2 tv_2 tk_2 a1_75 r_75 kr_75 (own_by r_3) (own_by r_4) (own_by r_5) zc h75 n0 (by omega) c144 (by assumption) c145 c146 c147 c148 c149 c150 c151 c152 c153 c154 c155 c156 c157 c158 c159 g75_0 g75_1 g75_2 g75_3 (own_ne (by omega)) (own_ne (by omega))) hZ (own_hw hw 40) (own_hw hw 39) (by decide) (by decide)) (g := (mkF m 152 #[oi p0, oi p1, oi p2, oi p3, oi p4, oi p5, oi 0, oi f7, oi 3, oi r_3, oi r_4, oi r_5, oi r_6, oR a1_75, .val .null] [(.ref a1_75)])) rfl (by rw [hml]; rfl) (argsL := [(.ref a1_75)]) (rest := []) (lenOf pd_11 rfl) rfl (by show 2 * 0 + _ ≤ _; exact Nat.le_of_eq rfl) (hb hby at_152) (fun _ _ => ⟨rfl, e75, (by decide : 3 + 1 ≤ _), (by decide : 10 + 2 ≤ _)⟩)
              dsimp only [Pt.U, Pt.locs, Pt.cells, Pt.slots] at X143 lq143 yq143 zq143 st143 hQ143
              subst lq143 yq143 zq143
              obtain ⟨h143, e143⟩ : ∃ z, T143.heap = z := ⟨_, rfl⟩
              rw [e143] at hQ143
              obtain ⟨rfl, Nq143, K143⟩ := hQ143
              have sz143 : h75.size ≤ h143.size := K143.1
              have N143 := Fr.app N75 Nq143
              refine own_go (st' := T143.setTop (mkF m 155 #[oi p0, oi p1, oi p2, oi p3, oi p4, oi p5, oi 0, oi f7, oi 3, oi r_3, oi r_4, oi r_5, oi r_6, oR a1_75, .val .null] [(own_of (own_by r_3) (own_by r_4) (own_by r_5) e_1 e_2)])) (fun t k => st143 t k) ?_
              refine own_go (st' := T143.setTop (mkF m 157 #[oi p0, oi p1, oi p2, oi p3, oi p4, oi p5, oi 0, oi f7, oi 3, oi r_3, oi r_4, oi r_5, oi r_6, oR a1_75, .val .null] [.null, (own_of (own_by r_3) (own_by r_4) (own_by r_5) e_1 e_2)])) (fun _ k => XS.aload X143.here hx rfl (hb hby at_155) rfl rfl k) ?_
              have hc160 : (own_of (own_by r_3) (own_by r_4) (own_by r_5) e_1 e_2) = .null := (own_of_eval hl_r_3 hl_r_4 hl_r_5 _ _).trans (if_neg (fun q => hc79 q.2))
              refine own_go (st' := T143.setTop (mkF m 160 #[oi p0, oi p1, oi p2, oi p3, oi p4, oi p5, oi 0, oi f7, oi 3, oi r_3, oi r_4, oi r_5, oi r_6, oR a1_75, .val .null] [])) (fun _ k => Jvm.RoadKit.acmp (g := (mkF m 157 #[oi p0, oi p1, oi p2, oi p3, oi p4, oi p5, oi 0, oi f7, oi 3, oi r_3, oi r_4, oi r_5, oi r_6, oR a1_75, .val .null] [.null, (own_of (own_by r_3) (own_by r_4) (own_by r_5) e_1 e_2)])) X143 hx rfl (own_of_ref (own_by r_3) (own_by r_4) (own_by r_5) e_1 e_2) rfl (pc0 := 157) (pc' := 160) (same := true) rfl (hb hby at_157) rfl (decide_eq_true hc160) (by decide) (by decide) k) ?_
              refine own_go (st' := T143.setTop (mkF m 161 #[oi p0, oi p1, oi p2, oi p3, oi p4, oi p5, oi 0, oi f7, oi 3, oi r_3, oi r_4, oi r_5, oi r_6, oR a1_75, .val .null] [(.int (1 : Int32))])) (fun _ k => XS.iconst X143.here hx rfl (hb hby at_160) k) ?_
              refine own_go (st' := T143.setTop (mkF m 165 #[oi p0, oi p1, oi p2, oi p3, oi p4, oi p5, oi 0, oi f7, oi 3, oi r_3, oi r_4, oi r_5, oi r_6, oR a1_75, .val .null] [(.int (1 : Int32))])) (fun _ k => XS.goto X143.here hx rfl (pc0 := 161) (pc' := 165) rfl (hb hby at_161) (by decide) (by decide) k) ?_
              obtain ⟨fs, hr, hrun, hended, hR1, hR2, hR3, hR4⟩ := X143.leaveW hSj2 (by rw [e143]; omega) (v := some (.int (1 : Int32))) (fun h => by rw [Bd.returns] at h; cases h)
              refine ⟨_, _, ?_, hP _ _ hrun hended ⟨_, _, rfl, ?_, hR1, hR2, hR3, hR4.mono (by decide) (by decide)⟩⟩
              · exact retN X143 hx (t := .boolean) Bd.returns (by simp) (hb hby at_165) hr
              · show Qrm0 Z p0 p1 p2 p3 p4 p5 va kva e_1 e_2 t_1 tv_1 tk_1 t_2 tv_2 tk_2 zc h0 n0 _ T143.heap _
                rw [e143]
                exact ⟨rfl, N143, trivial⟩
          · --
            refine own_go (st' := T75.setTop (mkF m 150 #[oi p0, oi p1, oi p2, oi p3, oi p4, oi p5, oi 0, oi f7, oi 3, oi r_3, oi r_4, oi r_5, oi r_6, oR a1_75, .val .null] [])) (fun _ k => XS.icmpYes X75.here hx rfl (pc0 := 113) (pc' := 150) rfl (hb hby at_113) rfl (feq hc78).2 (by decide) (by decide) k) ?_
            refine own_go (st' := T75.setTop (mkF m 152 #[oi p0, oi p1, oi p2, oi p3, oi p4, oi p5, oi 0, oi f7, oi 3, oi r_3, oi r_4, oi r_5, oi r_6, oR a1_75, .val .null] [(.ref a1_75)])) (fun _ k => XS.aload X75.here hx rfl (hb hby at_150) rfl rfl k) ?_
            have c163 : Sta Z h75 oS0 oS3 "Z" (.int zc) := (own_sta_keep pr1 K75 all0)
            have c164 : Sta Z h75 oS1 "$VALUES" oS4 (.ref va) := (own_sta_keep pr2 K75 all0)
            have c165 : Arv Z h75 va kva (.object oS1) (2 : Int32) [(.ref e_1), (.ref e_2)] .null := (pr3.keep K75 nin0)
            have c166 : Exa Z h75 va oS4 := (pr4.keep K75)
            have c167 : Exa Z h75 e_1 oS1 := (pr7.keep K75)
            have c168 : Exa Z h75 e_2 oS1 := (pr8.keep K75)
            have c169 : Fld Z h75 e_1 oS1 "m_sText" oS2 (.ref t_1) := (pr9.keep K75 nin0)
            have c170 : Exa Z h75 t_1 oS0 := (pr10.keep K75)
            have c171 : Fld Z h75 t_1 oS0 "value" "[B" (.ref tv_1) := (pr11.keep K75 nin0)
            have c172 : Fld Z h75 t_1 oS0 "coder" "B" (.int (0 : Int32)) := (pr12.keep K75 nin0)
            have c173 : Arv Z h75 tv_1 tk_1 .byte (3 : Int32) [(.int (49 : Int32)), (.int (46 : Int32)), (.int (48 : Int32))] (.int (0 : Int32)) := (pr13.keep K75 nin0)
            have c174 : Fld Z h75 e_2 oS1 "m_sText" oS2 (.ref t_2) := (pr14.keep K75 nin0)
            have c175 : Exa Z h75 t_2 oS0 := (pr15.keep K75)
            have c176 : Fld Z h75 t_2 oS0 "value" "[B" (.ref tv_2) := (pr16.keep K75 nin0)
            have c177 : Fld Z h75 t_2 oS0 "coder" "B" (.int (0 : Int32)) := (pr17.keep K75 nin0)
            have c178 : Arv Z h75 tv_2 tk_2 .byte (3 : Int32) [(.int (50 : Int32)), (.int (46 : Int32)), (.int (48 : Int32))] (.int (0 : Int32)) := (pr18.keep K75 nin0)
            obtain ⟨_, _, ⟨T162, LC162, kC162, nC162⟩, -, X162, ⟨Lc162, hQ162, lq162, yq162, zq162⟩, st162⟩ := Jvm.LawKit.callS X75 hx (y := oM1) hown (mvT hZ (own_hw hw 37)) (mvT hZ (own_hw hw 38)) (mvT hZ (own_hw hw 39)) (mvT hZ (own_hw hw 40)) (by decide) (backOf (W := 0) (rof_3 l Z a0 hw [] va kva e_1 e_2 t_1 tv_1 tk_1 t_2 tv_2 tk_2 a1_75 r_75 kr_75 (own_by r_3) (own_by r_4) (own_by r_5) zc h75 n0 (by omega) c163 (by assumption) c164 c165 c166 c167 c168 c169 c170 c171 c172 c173 c174 c175 c176 c177 c178 g75_0 g75_1 g75_2 g75_3 (own_ne (by omega)) (own_ne (by omega))) hZ (own_hw hw 40) (own_hw hw 39) (by decide) (by decide)) (g := (mkF m 152 #[oi p0, oi p1, oi p2, oi p3, oi p4, oi p5, oi 0, oi f7, oi 3, oi r_3, oi r_4, oi r_5, oi r_6, oR a1_75, .val .null] [(.ref a1_75)])) rfl (by rw [hml]; rfl) (argsL := [(.ref a1_75)]) (rest := []) (lenOf pd_11 rfl) rfl (by show 2 * 0 + _ ≤ _; exact Nat.le_of_eq rfl) (hb hby at_152) (fun _ _ => ⟨rfl, e75, (by decide : 3 + 1 ≤ _), (by decide : 10 + 2 ≤ _)⟩)
            dsimp only [Pt.U, Pt.locs, Pt.cells, Pt.slots] at X162 lq162 yq162 zq162 st162 hQ162
            subst lq162 yq162 zq162
            obtain ⟨h162, e162⟩ : ∃ z, T162.heap = z := ⟨_, rfl⟩
            rw [e162] at hQ162
            obtain ⟨rfl, Nq162, K162⟩ := hQ162
            have sz162 : h75.size ≤ h162.size := K162.1
            have N162 := Fr.app N75 Nq162
            refine own_go (st' := T162.setTop (mkF m 155 #[oi p0, oi p1, oi p2, oi p3, oi p4, oi p5, oi 0, oi f7, oi 3, oi r_3, oi r_4, oi r_5, oi r_6, oR a1_75, .val .null] [(own_of (own_by r_3) (own_by r_4) (own_by r_5) e_1 e_2)])) (fun t k => st162 t k) ?_
            refine own_go (st' := T162.setTop (mkF m 157 #[oi p0, oi p1, oi p2, oi p3, oi p4, oi p5, oi 0, oi f7, oi 3, oi r_3, oi r_4, oi r_5, oi r_6, oR a1_75, .val .null] [.null, (own_of (own_by r_3) (own_by r_4) (own_by r_5) e_1 e_2)])) (fun _ k => XS.aload X162.here hx rfl (hb hby at_155) rfl rfl k) ?_
            have hc179 : (own_of (own_by r_3) (own_by r_4) (own_by r_5) e_1 e_2) = .null := (own_of_eval hl_r_3 hl_r_4 hl_r_5 _ _).trans (if_neg (fun q => hc78 q.1))
            refine own_go (st' := T162.setTop (mkF m 160 #[oi p0, oi p1, oi p2, oi p3, oi p4, oi p5, oi 0, oi f7, oi 3, oi r_3, oi r_4, oi r_5, oi r_6, oR a1_75, .val .null] [])) (fun _ k => Jvm.RoadKit.acmp (g := (mkF m 157 #[oi p0, oi p1, oi p2, oi p3, oi p4, oi p5, oi 0, oi f7, oi 3, oi r_3, oi r_4, oi r_5, oi r_6, oR a1_75, .val .null] [.null, (own_of (own_by r_3) (own_by r_4) (own_by r_5) e_1 e_2)])) X162 hx rfl (own_of_ref (own_by r_3) (own_by r_4) (own_by r_5) e_1 e_2) rfl (pc0 := 157) (pc' := 160) (same := true) rfl (hb hby at_157) rfl (decide_eq_true hc179) (by decide) (by decide) k) ?_
            refine own_go (st' := T162.setTop (mkF m 161 #[oi p0, oi p1, oi p2, oi p3, oi p4, oi p5, oi 0, oi f7, oi 3, oi r_3, oi r_4, oi r_5, oi r_6, oR a1_75, .val .null] [(.int (1 : Int32))])) (fun _ k => XS.iconst X162.here hx rfl (hb hby at_160) k) ?_
            refine own_go (st' := T162.setTop (mkF m 165 #[oi p0, oi p1, oi p2, oi p3, oi p4, oi p5, oi 0, oi f7, oi 3, oi r_3, oi r_4, oi r_5, oi r_6, oR a1_75, .val .null] [(.int (1 : Int32))])) (fun _ k => XS.goto X162.here hx rfl (pc0 := 161) (pc' := 165) rfl (hb hby at_161) (by decide) (by decide) k) ?_
            obtain ⟨fs, hr, hrun, hended, hR1, hR2, hR3, hR4⟩ := X162.leaveW hSj2 (by rw [e162]; omega) (v := some (.int (1 : Int32))) (fun h => by rw [Bd.returns] at h; cases h)
            refine ⟨_, _, ?_, hP _ _ hrun hended ⟨_, _, rfl, ?_, hR1, hR2, hR3, hR4.mono (by decide) (by decide)⟩⟩
            · exact retN X162 hx (t := .boolean) Bd.returns (by simp) (hb hby at_165) hr
            · show Qrm0 Z p0 p1 p2 p3 p4 p5 va kva e_1 e_2 t_1 tv_1 tk_1 t_2 tv_2 tk_2 zc h0 n0 _ T162.heap _
              rw [e162]
              exact ⟨rfl, N162, trivial⟩
        · --
          refine own_go (st' := T6.setTop (mkF m 82 #[oi p0, oi p1, oi p2, oi p3, oi p4, oi p5, oi 0, oi f7, oi 4, oi r_3, oi r_4, oi r_5, oi r_6, .unset, .unset] [(.int (4 : Int32))])) (fun _ k => XS.iload X6.here hx rfl (hb hby at_80) rfl k) ?_
          refine own_go (st' := T6.setTop (mkF m 84 #[oi p0, oi p1, oi p2, oi p3, oi p4, oi p5, oi 0, oi f7, oi 4, oi r_3, oi r_4, oi r_5, oi r_6, .unset, .unset] [(.int r_3), (.int (4 : Int32))])) (fun _ k => XS.iload X6.here hx rfl (hb hby at_82) rfl k) ?_
          refine own_go (st' := T6.setTop (mkF m 86 #[oi p0, oi p1, oi p2, oi p3, oi p4, oi p5, oi 0, oi f7, oi 4, oi r_3, oi r_4, oi r_5, oi r_6, .unset, .unset] [(.int r_4), (.int r_3), (.int (4 : Int32))])) (fun _ k => XS.iload X6.here hx rfl (hb hby at_84) rfl k) ?_
          refine own_go (st' := T6.setTop (mkF m 88 #[oi p0, oi p1, oi p2, oi p3, oi p4, oi p5, oi 0, oi f7, oi 4, oi r_3, oi r_4, oi r_5, oi r_6, .unset, .unset] [(.int r_5), (.int r_4), (.int r_3), (.int (4 : Int32))])) (fun _ k => XS.iload X6.here hx rfl (hb hby at_86) rfl k) ?_
          refine own_go (st' := T6.setTop (mkF m 90 #[oi p0, oi p1, oi p2, oi p3, oi p4, oi p5, oi 0, oi f7, oi 4, oi r_3, oi r_4, oi r_5, oi r_6, .unset, .unset] [(.int r_6), (.int r_5), (.int r_4), (.int r_3), (.int (4 : Int32))])) (fun _ k => XS.iload X6.here hx rfl (hb hby at_88) rfl k) ?_
          obtain ⟨_, _, ⟨T181, LC181, kC181, nC181⟩, -, X181, ⟨Lc181, hQ181, lq181, yq181, zq181⟩, st181⟩ := Jvm.LawKit.callS X6 hx (y := oM5) hown (mvT hZ (own_hw hw 4)) (mvT hZ (own_hw hw 5)) (mvT hZ (own_hw hw 2)) (mvT hZ (own_hw hw 6)) (by decide) (backOf (W := 0) (rmk_4 l Z a0 hw [] zc r_3 r_4 r_5 r_6 h0 n0 (by omega) pr1 (by assumption) hl_r_3 hl_r_4 hl_r_5 hl_r_6) hZ (own_hw hw 6) (own_hw hw 2) (by decide) (by decide)) (g := (mkF m 90 #[oi p0, oi p1, oi p2, oi p3, oi p4, oi p5, oi 0, oi f7, oi 4, oi r_3, oi r_4, oi r_5, oi r_6, .unset, .unset] [(.int r_6), (.int r_5), (.int r_4), (.int r_3), (.int (4 : Int32))])) rfl (by rw [hml]; rfl) (argsL := [(.int (4 : Int32)), (.int r_3), (.int r_4), (.int r_5), (.int r_6)]) (rest := []) (lenOf pd_10 rfl) rfl (by show 2 * 0 + _ ≤ _; exact Nat.le_of_eq rfl) (hb hby at_90) (fun _ _ => ⟨rfl, eq6, (by decide : 0 + 3 ≤ _), (by decide : 0 + 12 ≤ _)⟩)
          dsimp only [Pt.U, Pt.locs, Pt.cells, Pt.slots] at X181 lq181 yq181 zq181 st181 hQ181
          subst lq181 yq181 zq181
          obtain ⟨h181, e181⟩ : ∃ z, T181.heap = z := ⟨_, rfl⟩
          rw [e181] at hQ181
          obtain ⟨a1_181, r_181, kr_181, rfl, Nq181, K181, g181_0, g181_1, g181_2, g181_3, g181_4⟩ := hQ181
          have sz181 : h0.size ≤ h181.size := K181.1
          have N181 := Fr.app N6 Nq181
          have lt181_1 : @LT.lt Nat _ a1_181 h181.size := g181_0.lt
          have lt181_2 : @LT.lt Nat _ r_181 h181.size := g181_3.lt
          refine own_go (st' := T181.setTop (mkF m 93 #[oi p0, oi p1, oi p2, oi p3, oi p4, oi p5, oi 0, oi f7, oi 4, oi r_3, oi r_4, oi r_5, oi r_6, .unset, .unset] [(.ref a1_181)])) (fun t k => st181 t k) ?_
          refine own_go (st' := T181.setTop (mkF m 95 #[oi p0, oi p1, oi p2, oi p3, oi p4, oi p5, oi 0, oi f7, oi 4, oi r_3, oi r_4, oi r_5, oi r_6, oR a1_181, .unset] [])) (fun _ k => XS.astore X181.here hx rfl (hb hby at_93) rfl rfl (l' := #[oi p0, oi p1, oi p2, oi p3, oi p4, oi p5, oi 0, oi f7, oi 4, oi r_3, oi r_4, oi r_5, oi r_6, oR a1_181, .unset]) rfl k) ?_
          refine own_go (st' := T181.setTop (mkF m 96 #[oi p0, oi p1, oi p2, oi p3, oi p4, oi p5, oi 0, oi f7, oi 4, oi r_3, oi r_4, oi r_5, oi r_6, oR a1_181, .unset] [.null])) (fun _ k => XS.aconstNull X181.here hx rfl (hb hby at_95) k) ?_
          refine own_go (st' := T181.setTop (mkF m 98 #[oi p0, oi p1, oi p2, oi p3, oi p4, oi p5, oi 0, oi f7, oi 4, oi r_3, oi r_4, oi r_5, oi r_6, oR a1_181, .val .null] [])) (fun _ k => XS.astore X181.here hx rfl (hb hby at_96) rfl rfl (l' := #[oi p0, oi p1, oi p2, oi p3, oi p4, oi p5, oi 0, oi f7, oi 4, oi r_3, oi r_4, oi r_5, oi r_6, oR a1_181, .val .null]) rfl k) ?_
          refine own_go (st' := T181.setTop (mkF m 100 #[oi p0, oi p1, oi p2, oi p3, oi p4, oi p5, oi 0, oi f7, oi 4, oi r_3, oi r_4, oi r_5, oi r_6, oR a1_181, .val .null] [(.int (0 : Int32))])) (fun _ k => XS.iload X181.here hx rfl (hb hby at_98) rfl k) ?_
          have hc182 : (0 : Int32) = (0 : Int32) := by decide
          refine own_go (st' := T181.setTop (mkF m 103 #[oi p0, oi p1, oi p2, oi p3, oi p4, oi p5, oi 0, oi f7, oi 4, oi r_3, oi r_4, oi r_5, oi r_6, oR a1_181, .val .null] [])) (fun _ k => XS.ifNo X181.here hx rfl (hb hby at_100) rfl ((if0 _ _).trans (teq hc182).2) k) ?_
          refine own_go (st' := T181.setTop (mkF m 105 #[oi p0, oi p1, oi p2, oi p3, oi p4, oi p5, oi 0, oi f7, oi 4, oi r_3, oi r_4, oi r_5, oi r_6, oR a1_181, .val .null] [(.int (4 : Int32))])) (fun _ k => XS.iload X181.here hx rfl (hb hby at_103) rfl k) ?_
          refine own_go (st' := T181.setTop (mkF m 106 #[oi p0, oi p1, oi p2, oi p3, oi p4, oi p5, oi 0, oi f7, oi 4, oi r_3, oi r_4, oi r_5, oi r_6, oR a1_181, .val .null] [(.int (3 : Int32)), (.int (4 : Int32))])) (fun _ k => XS.iconst X181.here hx rfl (hb hby at_105) k) ?_
          have hc183 : ¬ ((4 : Int32) = (3 : Int32)) := by decide
          refine own_go (st' := T181.setTop (mkF m 150 #[oi p0, oi p1, oi p2, oi p3, oi p4, oi p5, oi 0, oi f7, oi 4, oi r_3, oi r_4, oi r_5, oi r_6, oR a1_181, .val .null] [])) (fun _ k => XS.icmpYes X181.here hx rfl (pc0 := 106) (pc' := 150) rfl (hb hby at_106) rfl (feq hc183).2 (by decide) (by decide) k) ?_
          refine own_go (st' := T181.setTop (mkF m 152 #[oi p0, oi p1, oi p2, oi p3, oi p4, oi p5, oi 0, oi f7, oi 4, oi r_3, oi r_4, oi r_5, oi r_6, oR a1_181, .val .null] [(.ref a1_181)])) (fun _ k => XS.aload X181.here hx rfl (hb hby at_150) rfl rfl k) ?_
          have c185 : Sta Z h181 oS0 oS3 "Z" (.int zc) := (own_sta_keep pr1 K181 all0)
          have c186 : Sta Z h181 oS1 "$VALUES" oS4 (.ref va) := (own_sta_keep pr2 K181 all0)
          have c187 : Arv Z h181 va kva (.object oS1) (2 : Int32) [(.ref e_1), (.ref e_2)] .null := (pr3.keep K181 nin0)
          have c188 : Exa Z h181 va oS4 := (pr4.keep K181)
          have c189 : Exa Z h181 e_1 oS1 := (pr7.keep K181)
          have c190 : Exa Z h181 e_2 oS1 := (pr8.keep K181)
          have c191 : Fld Z h181 e_1 oS1 "m_sText" oS2 (.ref t_1) := (pr9.keep K181 nin0)
          have c192 : Exa Z h181 t_1 oS0 := (pr10.keep K181)
          have c193 : Fld Z h181 t_1 oS0 "value" "[B" (.ref tv_1) := (pr11.keep K181 nin0)
          have c194 : Fld Z h181 t_1 oS0 "coder" "B" (.int (0 : Int32)) := (pr12.keep K181 nin0)
          have c195 : Arv Z h181 tv_1 tk_1 .byte (3 : Int32) [(.int (49 : Int32)), (.int (46 : Int32)), (.int (48 : Int32))] (.int (0 : Int32)) := (pr13.keep K181 nin0)
          have c196 : Fld Z h181 e_2 oS1 "m_sText" oS2 (.ref t_2) := (pr14.keep K181 nin0)
          have c197 : Exa Z h181 t_2 oS0 := (pr15.keep K181)
          have c198 : Fld Z h181 t_2 oS0 "value" "[B" (.ref tv_2) := (pr16.keep K181 nin0)
          have c199 : Fld Z h181 t_2 oS0 "coder" "B" (.int (0 : Int32)) := (pr17.keep K181 nin0)
          have c200 : Arv Z h181 tv_2 tk_2 .byte (3 : Int32) [(.int (50 : Int32)), (.int (46 : Int32)), (.int (48 : Int32))] (.int (0 : Int32)) := (pr18.keep K181 nin0)
          obtain ⟨_, _, ⟨T184, LC184, kC184, nC184⟩, -, X184, ⟨Lc184, hQ184, lq184, yq184, zq184⟩, st184⟩ := Jvm.LawKit.callS X181 hx (y := oM1) hown (mvT hZ (own_hw hw 37)) (mvT hZ (own_hw hw 38)) (mvT hZ (own_hw hw 39)) (mvT hZ (own_hw hw 40)) (by decide) (backOf (W := 0) (rof_4 l Z a0 hw [] va kva e_1 e_2 t_1 tv_1 tk_1 t_2 tv_2 tk_2 a1_181 r_181 kr_181 (own_by r_3) (own_by r_4) (own_by r_5) (own_by r_6) zc h181 n0 (by omega) c185 (by assumption) c186 c187 c188 c189 c190 c191 c192 c193 c194 c195 c196 c197 c198 c199 c200 g181_0 g181_1 g181_2 g181_3 (own_ne (by omega)) (own_ne (by omega))) hZ (own_hw hw 40) (own_hw hw 39) (by decide) (by decide)) (g := (mkF m 152 #[oi p0, oi p1, oi p2, oi p3, oi p4, oi p5, oi 0, oi f7, oi 4, oi r_3, oi r_4, oi r_5, oi r_6, oR a1_181, .val .null] [(.ref a1_181)])) rfl (by rw [hml]; rfl) (argsL := [(.ref a1_181)]) (rest := []) (lenOf pd_11 rfl) rfl (by show 2 * 0 + _ ≤ _; exact Nat.le_of_eq rfl) (hb hby at_152) (fun _ _ => ⟨rfl, e181, (by decide : 3 + 1 ≤ _), (by decide : 12 + 2 ≤ _)⟩)
          dsimp only [Pt.U, Pt.locs, Pt.cells, Pt.slots] at X184 lq184 yq184 zq184 st184 hQ184
          subst lq184 yq184 zq184
          obtain ⟨h184, e184⟩ : ∃ z, T184.heap = z := ⟨_, rfl⟩
          rw [e184] at hQ184
          obtain ⟨rfl, Nq184, K184⟩ := hQ184
          have sz184 : h181.size ≤ h184.size := K184.1
          have N184 := Fr.app N181 Nq184
          refine own_go (st' := T184.setTop (mkF m 155 #[oi p0, oi p1, oi p2, oi p3, oi p4, oi p5, oi 0, oi f7, oi 4, oi r_3, oi r_4, oi r_5, oi r_6, oR a1_181, .val .null] [.null])) (fun t k => st184 t k) ?_
          refine own_go (st' := T184.setTop (mkF m 157 #[oi p0, oi p1, oi p2, oi p3, oi p4, oi p5, oi 0, oi f7, oi 4, oi r_3, oi r_4, oi r_5, oi r_6, oR a1_181, .val .null] [.null, .null])) (fun _ k => XS.aload X184.here hx rfl (hb hby at_155) rfl rfl k) ?_
          refine own_go (st' := T184.setTop (mkF m 160 #[oi p0, oi p1, oi p2, oi p3, oi p4, oi p5, oi 0, oi f7, oi 4, oi r_3, oi r_4, oi r_5, oi r_6, oR a1_181, .val .null] [])) (fun _ k => Jvm.RoadKit.acmp (g := (mkF m 157 #[oi p0, oi p1, oi p2, oi p3, oi p4, oi p5, oi 0, oi f7, oi 4, oi r_3, oi r_4, oi r_5, oi r_6, oR a1_181, .val .null] [.null, .null])) X184 hx rfl rfl rfl (pc0 := 157) (pc' := 160) (same := true) rfl (hb hby at_157) rfl (decide_eq_true rfl) (by decide) (by decide) k) ?_
          refine own_go (st' := T184.setTop (mkF m 161 #[oi p0, oi p1, oi p2, oi p3, oi p4, oi p5, oi 0, oi f7, oi 4, oi r_3, oi r_4, oi r_5, oi r_6, oR a1_181, .val .null] [(.int (1 : Int32))])) (fun _ k => XS.iconst X184.here hx rfl (hb hby at_160) k) ?_
          refine own_go (st' := T184.setTop (mkF m 165 #[oi p0, oi p1, oi p2, oi p3, oi p4, oi p5, oi 0, oi f7, oi 4, oi r_3, oi r_4, oi r_5, oi r_6, oR a1_181, .val .null] [(.int (1 : Int32))])) (fun _ k => XS.goto X184.here hx rfl (pc0 := 161) (pc' := 165) rfl (hb hby at_161) (by decide) (by decide) k) ?_
          obtain ⟨fs, hr, hrun, hended, hR1, hR2, hR3, hR4⟩ := X184.leaveW hSj2 (by rw [e184]; omega) (v := some (.int (1 : Int32))) (fun h => by rw [Bd.returns] at h; cases h)
          refine ⟨_, _, ?_, hP _ _ hrun hended ⟨_, _, rfl, ?_, hR1, hR2, hR3, hR4.mono (by decide) (by decide)⟩⟩
          · exact retN X184 hx (t := .boolean) Bd.returns (by simp) (hb hby at_165) hr
          · show Qrm0 Z p0 p1 p2 p3 p4 p5 va kva e_1 e_2 t_1 tv_1 tk_1 t_2 tv_2 tk_2 zc h0 n0 _ T184.heap _
            rw [e184]
            exact ⟨rfl, N184, trivial⟩
      · --
        refine own_go (st' := T6.setTop (mkF m 73 #[oi p0, oi p1, oi p2, oi p3, oi p4, oi p5, oi 1, oi f7, .val (.int ((p1 &&& (7 : Int32)) % (5 : Int32))), oi r_3, oi r_4, oi r_5, oi r_6, .unset, .unset] [(.int (1 : Int32))])) (fun _ k => XS.iload X6.here hx rfl (hb hby at_71) rfl k) ?_
        have hc202 : ¬ ((1 : Int32) = (0 : Int32)) := by decide
        refine own_go (st' := T6.setTop (mkF m 76 #[oi p0, oi p1, oi p2, oi p3, oi p4, oi p5, oi 1, oi f7, .val (.int ((p1 &&& (7 : Int32)) % (5 : Int32))), oi r_3, oi r_4, oi r_5, oi r_6, .unset, .unset] [])) (fun _ k => XS.ifNo X6.here hx rfl (hb hby at_73) rfl ((if0 _ _).trans (feq hc202).1) k) ?_
        refine own_go (st' := T6.setTop (mkF m 77 #[oi p0, oi p1, oi p2, oi p3, oi p4, oi p5, oi 1, oi f7, .val (.int ((p1 &&& (7 : Int32)) % (5 : Int32))), oi r_3, oi r_4, oi r_5, oi r_6, .unset, .unset] [.null])) (fun _ k => XS.aconstNull X6.here hx rfl (hb hby at_76) k) ?_
        refine own_go (st' := T6.setTop (mkF m 93 #[oi p0, oi p1, oi p2, oi p3, oi p4, oi p5, oi 1, oi f7, .val (.int ((p1 &&& (7 : Int32)) % (5 : Int32))), oi r_3, oi r_4, oi r_5, oi r_6, .unset, .unset] [.null])) (fun _ k => XS.goto X6.here hx rfl (pc0 := 77) (pc' := 93) rfl (hb hby at_77) (by decide) (by decide) k) ?_
        refine own_go (st' := T6.setTop (mkF m 95 #[oi p0, oi p1, oi p2, oi p3, oi p4, oi p5, oi 1, oi f7, .val (.int ((p1 &&& (7 : Int32)) % (5 : Int32))), oi r_3, oi r_4, oi r_5, oi r_6, .val .null, .unset] [])) (fun _ k => XS.astore X6.here hx rfl (hb hby at_93) rfl rfl (l' := #[oi p0, oi p1, oi p2, oi p3, oi p4, oi p5, oi 1, oi f7, .val (.int ((p1 &&& (7 : Int32)) % (5 : Int32))), oi r_3, oi r_4, oi r_5, oi r_6, .val .null, .unset]) rfl k) ?_
        refine own_go (st' := T6.setTop (mkF m 96 #[oi p0, oi p1, oi p2, oi p3, oi p4, oi p5, oi 1, oi f7, .val (.int ((p1 &&& (7 : Int32)) % (5 : Int32))), oi r_3, oi r_4, oi r_5, oi r_6, .val .null, .unset] [.null])) (fun _ k => XS.aconstNull X6.here hx rfl (hb hby at_95) k) ?_
        refine own_go (st' := T6.setTop (mkF m 98 #[oi p0, oi p1, oi p2, oi p3, oi p4, oi p5, oi 1, oi f7, .val (.int ((p1 &&& (7 : Int32)) % (5 : Int32))), oi r_3, oi r_4, oi r_5, oi r_6, .val .null, .val .null] [])) (fun _ k => XS.astore X6.here hx rfl (hb hby at_96) rfl rfl (l' := #[oi p0, oi p1, oi p2, oi p3, oi p4, oi p5, oi 1, oi f7, .val (.int ((p1 &&& (7 : Int32)) % (5 : Int32))), oi r_3, oi r_4, oi r_5, oi r_6, .val .null, .val .null]) rfl k) ?_
        refine own_go (st' := T6.setTop (mkF m 100 #[oi p0, oi p1, oi p2, oi p3, oi p4, oi p5, oi 1, oi f7, .val (.int ((p1 &&& (7 : Int32)) % (5 : Int32))), oi r_3, oi r_4, oi r_5, oi r_6, .val .null, .val .null] [(.int (1 : Int32))])) (fun _ k => XS.iload X6.here hx rfl (hb hby at_98) rfl k) ?_
        have hc203 : ¬ ((1 : Int32) = (0 : Int32)) := by decide
        refine own_go (st' := T6.setTop (mkF m 150 #[oi p0, oi p1, oi p2, oi p3, oi p4, oi p5, oi 1, oi f7, .val (.int ((p1 &&& (7 : Int32)) % (5 : Int32))), oi r_3, oi r_4, oi r_5, oi r_6, .val .null, .val .null] [])) (fun _ k => XS.ifYes X6.here hx rfl (pc0 := 100) (pc' := 150) rfl (hb hby at_100) rfl ((if0 _ _).trans (feq hc203).2) (by decide) (by decide) k) ?_
        refine own_go (st' := T6.setTop (mkF m 152 #[oi p0, oi p1, oi p2, oi p3, oi p4, oi p5, oi 1, oi f7, .val (.int ((p1 &&& (7 : Int32)) % (5 : Int32))), oi r_3, oi r_4, oi r_5, oi r_6, .val .null, .val .null] [.null])) (fun _ k => XS.aload X6.here hx rfl (hb hby at_150) rfl rfl k) ?_
        obtain ⟨_, _, ⟨T204, LC204, kC204, nC204⟩, -, X204, ⟨Lc204, hQ204, lq204, yq204, zq204⟩, st204⟩ := Jvm.LawKit.callS X6 hx (y := oM1) hown (mvT hZ (own_hw hw 37)) (mvT hZ (own_hw hw 38)) (mvT hZ (own_hw hw 39)) (mvT hZ (own_hw hw 40)) (by decide) (backOf (W := 0) (rof_null l Z a0 hw [] va kva e_1 e_2 t_1 tv_1 tk_1 t_2 tv_2 tk_2 zc h0 n0 (by omega) pr1 (by assumption) pr2 pr3 pr4 pr7 pr8 pr9 pr10 pr11 pr12 pr13 pr14 pr15 pr16 pr17 pr18) hZ (own_hw hw 40) (own_hw hw 39) (by decide) (by decide)) (g := (mkF m 152 #[oi p0, oi p1, oi p2, oi p3, oi p4, oi p5, oi 1, oi f7, .val (.int ((p1 &&& (7 : Int32)) % (5 : Int32))), oi r_3, oi r_4, oi r_5, oi r_6, .val .null, .val .null] [.null])) rfl (by rw [hml]; rfl) (argsL := [.null]) (rest := []) (lenOf pd_11 rfl) rfl (by show 2 * 0 + _ ≤ _; exact Nat.le_of_eq rfl) (hb hby at_152) (fun _ _ => ⟨rfl, eq6, (by decide : 0 + 1 ≤ _), (by decide : 0 + 2 ≤ _)⟩)
        dsimp only [Pt.U, Pt.locs, Pt.cells, Pt.slots] at X204 lq204 yq204 zq204 st204 hQ204
        subst lq204 yq204 zq204
        obtain ⟨h204, e204⟩ : ∃ z, T204.heap = z := ⟨_, rfl⟩
        rw [e204] at hQ204
        obtain ⟨rfl, Nq204, K204⟩ := hQ204
        have sz204 : h0.size ≤ h204.size := K204.1
        have N204 := Fr.app N6 Nq204
        refine own_go (st' := T204.setTop (mkF m 155 #[oi p0, oi p1, oi p2, oi p3, oi p4, oi p5, oi 1, oi f7, .val (.int ((p1 &&& (7 : Int32)) % (5 : Int32))), oi r_3, oi r_4, oi r_5, oi r_6, .val .null, .val .null] [.null])) (fun t k => st204 t k) ?_
        refine own_go (st' := T204.setTop (mkF m 157 #[oi p0, oi p1, oi p2, oi p3, oi p4, oi p5, oi 1, oi f7, .val (.int ((p1 &&& (7 : Int32)) % (5 : Int32))), oi r_3, oi r_4, oi r_5, oi r_6, .val .null, .val .null] [.null, .null])) (fun _ k => XS.aload X204.here hx rfl (hb hby at_155) rfl rfl k) ?_
        refine own_go (st' := T204.setTop (mkF m 160 #[oi p0, oi p1, oi p2, oi p3, oi p4, oi p5, oi 1, oi f7, .val (.int ((p1 &&& (7 : Int32)) % (5 : Int32))), oi r_3, oi r_4, oi r_5, oi r_6, .val .null, .val .null] [])) (fun _ k => Jvm.RoadKit.acmp (g := (mkF m 157 #[oi p0, oi p1, oi p2, oi p3, oi p4, oi p5, oi 1, oi f7, .val (.int ((p1 &&& (7 : Int32)) % (5 : Int32))), oi r_3, oi r_4, oi r_5, oi r_6, .val .null, .val .null] [.null, .null])) X204 hx rfl rfl rfl (pc0 := 157) (pc' := 160) (same := true) rfl (hb hby at_157) rfl (decide_eq_true rfl) (by decide) (by decide) k) ?_
        refine own_go (st' := T204.setTop (mkF m 161 #[oi p0, oi p1, oi p2, oi p3, oi p4, oi p5, oi 1, oi f7, .val (.int ((p1 &&& (7 : Int32)) % (5 : Int32))), oi r_3, oi r_4, oi r_5, oi r_6, .val .null, .val .null] [(.int (1 : Int32))])) (fun _ k => XS.iconst X204.here hx rfl (hb hby at_160) k) ?_
        refine own_go (st' := T204.setTop (mkF m 165 #[oi p0, oi p1, oi p2, oi p3, oi p4, oi p5, oi 1, oi f7, .val (.int ((p1 &&& (7 : Int32)) % (5 : Int32))), oi r_3, oi r_4, oi r_5, oi r_6, .val .null, .val .null] [(.int (1 : Int32))])) (fun _ k => XS.goto X204.here hx rfl (pc0 := 161) (pc' := 165) rfl (hb hby at_161) (by decide) (by decide) k) ?_
        obtain ⟨fs, hr, hrun, hended, hR1, hR2, hR3, hR4⟩ := X204.leaveW hSj2 (by rw [e204]; omega) (v := some (.int (1 : Int32))) (fun h => by rw [Bd.returns] at h; cases h)
        refine ⟨_, _, ?_, hP _ _ hrun hended ⟨_, _, rfl, ?_, hR1, hR2, hR3, hR4.mono (by decide) (by decide)⟩⟩
        · exact retN X204 hx (t := .boolean) Bd.returns (by simp) (hb hby at_165) hr
        · show Qrm0 Z p0 p1 p2 p3 p4 p5 va kva e_1 e_2 t_1 tv_1 tk_1 t_2 tv_2 tk_2 zc h0 n0 _ T204.heap _
          rw [e204]
          exact ⟨rfl, N204, trivial⟩
    refine own_go (st' := Tj1.setTop (mkF m 17 #[oi p0, oi p1, oi p2, oi p3, oi p4, oi p5, oi f6, .unset, .unset, .unset, .unset, .unset, .unset, .unset, .unset] [(.int p0)])) (fun _ k => XS.iloadN Xj1.here hx rfl (hb hby at_16) rfl k) ?_
    refine own_go (st' := Tj1.setTop (mkF m 18 #[oi p0, oi p1, oi p2, oi p3, oi p4, oi p5, oi f6, .unset, .unset, .unset, .unset, .unset, .unset, .unset, .unset] [(.int (1 : Int32)), (.int p0)])) (fun _ k => XS.iconst Xj1.here hx rfl (hb hby at_17) k) ?_
    refine own_go (st' := Tj1.setTop (mkF m 19 #[oi p0, oi p1, oi p2, oi p3, oi p4, oi p5, oi f6, .unset, .unset, .unset, .unset, .unset, .unset, .unset, .unset] [(.int (p0 &&& (1 : Int32)))])) (fun _ k => XS.iand Xj1.here hx rfl (hb hby at_18) rfl k) ?_
    by_cases hc206 : (p0 &&& (1 : Int32)) = (0 : Int32)
    · --
      refine own_go (st' := Tj1.setTop (mkF m 26 #[oi p0, oi p1, oi p2, oi p3, oi p4, oi p5, oi f6, .unset, .unset, .unset, .unset, .unset, .unset, .unset, .unset] [])) (fun _ k => XS.ifYes Xj1.here hx rfl (pc0 := 19) (pc' := 26) rfl (hb hby at_19) rfl ((if0 _ _).trans (teq hc206).1) (by decide) (by decide) k) ?_
      refine own_go (st' := Tj1.setTop (mkF m 27 #[oi p0, oi p1, oi p2, oi p3, oi p4, oi p5, oi f6, .unset, .unset, .unset, .unset, .unset, .unset, .unset, .unset] [(.int (0 : Int32))])) (fun _ k => XS.iconst Xj1.here hx rfl (hb hby at_26) k) ?_
      exact J27_2 _ _ (0 : Int32) _ _ Xj1 ej1 Nj1 hSj1 (by omega) hZ hown Aj1
    · --
      refine own_go (st' := Tj1.setTop (mkF m 22 #[oi p0, oi p1, oi p2, oi p3, oi p4, oi p5, oi f6, .unset, .unset, .unset, .unset, .unset, .unset, .unset, .unset] [])) (fun _ k => XS.ifNo Xj1.here hx rfl (hb hby at_19) rfl ((if0 _ _).trans (feq hc206).1) k) ?_
      refine own_go (st' := Tj1.setTop (mkF m 23 #[oi p0, oi p1, oi p2, oi p3, oi p4, oi p5, oi f6, .unset, .unset, .unset, .unset, .unset, .unset, .unset, .unset] [(.int (1 : Int32))])) (fun _ k => XS.iconst Xj1.here hx rfl (hb hby at_22) k) ?_
      refine own_go (st' := Tj1.setTop (mkF m 27 #[oi p0, oi p1, oi p2, oi p3, oi p4, oi p5, oi f6, .unset, .unset, .unset, .unset, .unset, .unset, .unset, .unset] [(.int (1 : Int32))])) (fun _ k => XS.goto Xj1.here hx rfl (pc0 := 23) (pc' := 27) rfl (hb hby at_23) (by decide) (by decide) k) ?_
      exact J27_2 _ _ (1 : Int32) _ _ Xj1 ej1 Nj1 hSj1 (by omega) hZ hown Aj1
  refine own_go (st' := s₁.setTop (mkF m 1 #[oi p0, oi p1, oi p2, oi p3, oi p4, oi p5, .unset, .unset, .unset, .unset, .unset, .unset, .unset, .unset, .unset] [(.int p0)])) (fun _ k => XS.iloadN X0.here hx rfl (hb hby at_0) rfl k) ?_
  refine own_go (st' := s₁.setTop (mkF m 3 #[oi p0, oi p1, oi p2, oi p3, oi p4, oi p5, .unset, .unset, .unset, .unset, .unset, .unset, .unset, .unset, .unset] [(.int (7 : Int32)), (.int p0)])) (fun _ k => XS.bipush X0.here hx rfl (hb hby at_1) k) ?_
  refine own_go (st' := s₁.setTop (mkF m 4 #[oi p0, oi p1, oi p2, oi p3, oi p4, oi p5, .unset, .unset, .unset, .unset, .unset, .unset, .unset, .unset, .unset] [(.int (p0 &&& (7 : Int32)))])) (fun _ k => XS.iand X0.here hx rfl (hb hby at_3) rfl k) ?_
  refine own_go (st' := s₁.setTop (mkF m 6 #[oi p0, oi p1, oi p2, oi p3, oi p4, oi p5, .unset, .unset, .unset, .unset, .unset, .unset, .unset, .unset, .unset] [(.int (7 : Int32)), (.int (p0 &&& (7 : Int32)))])) (fun _ k => XS.bipush X0.here hx rfl (hb hby at_4) k) ?_
  by_cases hc207 : (p0 &&& (7 : Int32)) = (7 : Int32)
  · --
    refine own_go (st' := s₁.setTop (mkF m 9 #[oi p0, oi p1, oi p2, oi p3, oi p4, oi p5, .unset, .unset, .unset, .unset, .unset, .unset, .unset, .unset, .unset] [])) (fun _ k => XS.icmpNo X0.here hx rfl (hb hby at_6) rfl (teq hc207).2 k) ?_
    refine own_go (st' := s₁.setTop (mkF m 10 #[oi p0, oi p1, oi p2, oi p3, oi p4, oi p5, .unset, .unset, .unset, .unset, .unset, .unset, .unset, .unset, .unset] [(.int (1 : Int32))])) (fun _ k => XS.iconst X0.here hx rfl (hb hby at_9) k) ?_
    refine own_go (st' := s₁.setTop (mkF m 14 #[oi p0, oi p1, oi p2, oi p3, oi p4, oi p5, .unset, .unset, .unset, .unset, .unset, .unset, .unset, .unset, .unset] [(.int (1 : Int32))])) (fun _ k => XS.goto X0.here hx rfl (pc0 := 10) (pc' := 14) rfl (hb hby at_10) (by decide) (by decide) k) ?_
    exact J14_1 _ _ (1 : Int32) _ _ X0 e0 N0 hS0 (by omega) hZ hown A0 (Or.inr rfl)
  · --
    refine own_go (st' := s₁.setTop (mkF m 13 #[oi p0, oi p1, oi p2, oi p3, oi p4, oi p5, .unset, .unset, .unset, .unset, .unset, .unset, .unset, .unset, .unset] [])) (fun _ k => XS.icmpYes X0.here hx rfl (pc0 := 6) (pc' := 13) rfl (hb hby at_6) rfl (feq hc207).2 (by decide) (by decide) k) ?_
    refine own_go (st' := s₁.setTop (mkF m 14 #[oi p0, oi p1, oi p2, oi p3, oi p4, oi p5, .unset, .unset, .unset, .unset, .unset, .unset, .unset, .unset, .unset] [(.int (0 : Int32))])) (fun _ k => XS.iconst X0.here hx rfl (hb hby at_13) k) ?_
    exact J14_1 _ _ (0 : Int32) _ _ X0 e0 N0 hS0 (by omega) hZ hown A0 (Or.inl rfl)
set_option maxRecDepth 65536 in
set_option maxHeartbeats 40000000 in
theorem comes_1 {Post : Tables → Env → Array Value → State → Outcome → State → Prop} (hpost : ∀ tb e args s v u, (limb_1_1.after args s (.returned v) u = true ∧ limb_1_2.after args s (.returned v) u = true ∧ True) → ReturnedEndW s (.returned v) u (Jvm.fieldLocs frame_1_writes args s ++ Jvm.arrayLocs frame_1_arrays args s ++ Jvm.staticLocs frame_1_statics s) 24 1152 → Post tb e args s (.returned v) u) :
    ArmFor flags0 classFile x code maxLocals ret World_1 tables_1 room_1 Calls_1 rest_1 Pre_1 Post := by
  intro l hfl _ _ p e ha hc hk s m args below hf hA hF happ hP
  obtain ⟨hcalls, hrest, hpre⟩ := hP
  obtain ⟨-, -, -, hnamed, -, -, -, hat⟩ := (Spec.applies_iff hf).mp happ
  obtain ⟨hg, hn⟩ := and_e (Cond.before_iff.mp (show (Jvm.Cond.and given_1 narrow_1).before args s = true from hpre))
  obtain ⟨h1, h2⟩ := and_e hg
  obtain ⟨w0, w1, w2, w3, w4, w5, rfl⟩ : ∃ w0 w1 w2 w3 w4 w5 : Value, args = #[w0, w1, w2, w3, w4, w5] := by
    have hs : args.size = 6 := by simpa [Cond.value, given_1] using h1
    obtain ⟨L⟩ := args
    match L, hs with
    | [w0, w1, w2, w3, w4, w5], _ => exact ⟨w0, w1, w2, w3, w4, w5, rfl⟩
  have hw := fun d (hd : d ∈ tables_1) => atoms_spec (ws := Jvm.Cond.code x code maxLocals ret :: tables_1) hat d (List.mem_cons_of_mem _ hd)
  have hfit : Fit s := fun {y c} hc i hi => by
    obtain ⟨ha, rfl⟩ := Array.getElem?_eq_some_iff.mp hc
    have q := List.all_eq_true.mp ((Array.all_eq_true_iff_forall_mem.mp hF) _ (Array.getElem_mem ha)) i (List.mem_range.mpr hi)
    simpa [Array.getElem?_eq_getElem hi] using q
  obtain ⟨hsets, hown0⟩ := atoms_of _ (rest_1_c_eq ▸ (show rest_1_c.before _ s = true from hrest))
  obtain ⟨ha0, hr0⟩ := and_e h2
  obtain ⟨p0, ev0⟩ := is_v ha0
  obtain rfl : w0 = (.int p0) := Option.some.inj ev0
  obtain ⟨ha1, hr1⟩ := and_e hr0
  obtain ⟨p1, ev1⟩ := is_v ha1
  obtain rfl : w1 = (.int p1) := Option.some.inj ev1
  obtain ⟨ha2, hr2⟩ := and_e hr1
  obtain ⟨p2, ev2⟩ := is_v ha2
  obtain rfl : w2 = (.int p2) := Option.some.inj ev2
  obtain ⟨ha3, hr3⟩ := and_e hr2
  obtain ⟨p3, ev3⟩ := is_v ha3
  obtain rfl : w3 = (.int p3) := Option.some.inj ev3
  obtain ⟨ha4, hr4⟩ := and_e hr3
  obtain ⟨p4, ev4⟩ := is_v ha4
  obtain rfl : w4 = (.int p4) := Option.some.inj ev4
  obtain ⟨p5, ev5⟩ := is_v hr4
  obtain rfl : w5 = (.int p5) := Option.some.inj ev5
  obtain ⟨nw0, nr0⟩ := and_e hn
  obtain ⟨nw1, nr1⟩ := and_e nr0
  obtain ⟨nw2, nr2⟩ := and_e nr1
  obtain ⟨nw3, nr3⟩ := and_e nr2
  obtain ⟨nw4, nr4⟩ := and_e nr3
  obtain ⟨nw5, nr5⟩ := and_e nr4
  obtain ⟨nw6, nr6⟩ := and_e nr5
  obtain ⟨nw7, nr7⟩ := and_e nr6
  obtain ⟨nw8, nr8⟩ := and_e nr7
  obtain ⟨nw9, nr9⟩ := and_e nr8
  obtain ⟨nw10, nr10⟩ := and_e nr9
  obtain ⟨nw11, nr11⟩ := and_e nr10
  obtain ⟨nw12, nr12⟩ := and_e nr11
  obtain ⟨nw13, nr13⟩ := and_e nr12
  obtain ⟨nw14, nr14⟩ := and_e nr13
  obtain ⟨nw15, nr15⟩ := and_e nr14
  obtain ⟨nw16, nr16⟩ := and_e nr15
  obtain ⟨nw17, nr17⟩ := and_e nr16
  obtain ⟨nw18, nr18⟩ := and_e nr17
  obtain ⟨nw19, nr19⟩ := and_e nr18
  have nw20 := nr19
  obtain ⟨a__VALUES, ea__VALUES⟩ := arr_v nw0
  have sa__VALUES : Sta s s.heap oS1 "$VALUES" oS4 (.ref a__VALUES) := Sta.start ea__VALUES (Or.inr ⟨(own_hw hw 39), (own_hw hw 45)⟩)
  obtain ⟨cla__VALUES, Ara__VALUES⟩ := Arr.start ea__VALUES nw0
  have xa__VALUES : Exa s s.heap a__VALUES oS4 := Exa.start ea__VALUES nw1
  obtain ⟨a_V1_0, ea_V1_0⟩ := exa_v nw3
  have sa_V1_0 : Sta s s.heap oS1 "V1_0" oS7 (.ref a_V1_0) := Sta.start ea_V1_0 (Or.inr ⟨(own_hw hw 39), (own_hw hw 53)⟩)
  have xa_V1_0 : Exa s s.heap a_V1_0 oS1 := Exa.start ea_V1_0 nw3
  obtain ⟨a_V2_0, ea_V2_0⟩ := exa_v nw5
  have sa_V2_0 : Sta s s.heap oS1 "V2_0" oS7 (.ref a_V2_0) := Sta.start ea_V2_0 (Or.inr ⟨(own_hw hw 39), (own_hw hw 54)⟩)
  have xa_V2_0 : Exa s s.heap a_V2_0 oS1 := Exa.start ea_V2_0 nw5
  have lna__VALUES := own_len ea__VALUES Ara__VALUES.1 nw2
  have ela__VALUES_0 := own_elem ea__VALUES Ara__VALUES.1 ea_V1_0 nw4
  have ela__VALUES_1 := own_elem ea__VALUES Ara__VALUES.1 ea_V2_0 nw6
  have va__VALUES : Arv s s.heap a__VALUES cla__VALUES.cls (.object oS1) (2 : Int32) [(.ref a_V1_0), (.ref a_V2_0)] .null := Arv.start hfit Ara__VALUES lna__VALUES.1 lna__VALUES.2 (by decide) rfl ⟨ela__VALUES_0, ela__VALUES_1, trivial⟩
  obtain ⟨t_1, et_1⟩ := exa_v nw7
  have xt_1 : Exa s s.heap t_1 oS0 := Exa.start et_1 nw7
  have ft_1 : Fld s s.heap a_V1_0 oS1 "m_sText" oS2 (.ref t_1) := Fld.start (by rw [← fld_at ea_V1_0]; exact et_1)
  have fc_1 : Fld s s.heap t_1 oS0 "coder" "B" (.int (0 : Int32)) := own_fld et_1 nw8
  obtain ⟨tv_1, ev_1⟩ := arr_v nw9
  obtain ⟨clt_1, Art_1⟩ := Arr.start ev_1 nw9
  have fv_1 : Fld s s.heap t_1 oS0 "value" "[B" (.ref tv_1) := Fld.start (by rw [← fld_at et_1]; exact ev_1)
  have lnt_1 := own_len ev_1 Art_1.1 nw10
  have elt_1_0 := own_elem_i ev_1 Art_1.1 nw11
  have elt_1_1 := own_elem_i ev_1 Art_1.1 nw17
  have elt_1_2 := own_elem_i ev_1 Art_1.1 nw20
  have vt_1 : Arv s s.heap tv_1 clt_1.cls .byte (3 : Int32) [(.int (49 : Int32)), (.int (46 : Int32)), (.int (48 : Int32))] (.int (0 : Int32)) := Arv.start hfit Art_1 lnt_1.1 lnt_1.2 (by decide) rfl ⟨elt_1_0, elt_1_1, elt_1_2, trivial⟩
  obtain ⟨t_2, et_2⟩ := exa_v nw12
  have xt_2 : Exa s s.heap t_2 oS0 := Exa.start et_2 nw12
  have ft_2 : Fld s s.heap a_V2_0 oS1 "m_sText" oS2 (.ref t_2) := Fld.start (by rw [← fld_at ea_V2_0]; exact et_2)
  have fc_2 : Fld s s.heap t_2 oS0 "coder" "B" (.int (0 : Int32)) := own_fld et_2 nw13
  obtain ⟨tv_2, ev_2⟩ := arr_v nw14
  obtain ⟨clt_2, Art_2⟩ := Arr.start ev_2 nw14
  have fv_2 : Fld s s.heap t_2 oS0 "value" "[B" (.ref tv_2) := Fld.start (by rw [← fld_at et_2]; exact ev_2)
  have lnt_2 := own_len ev_2 Art_2.1 nw15
  have elt_2_0 := own_elem_i ev_2 Art_2.1 nw16
  have elt_2_1 := own_elem_i ev_2 Art_2.1 nw18
  have elt_2_2 := own_elem_i ev_2 Art_2.1 nw19
  have vt_2 : Arv s s.heap tv_2 clt_2.cls .byte (3 : Int32) [(.int (50 : Int32)), (.int (46 : Int32)), (.int (48 : Int32))] (.int (0 : Int32)) := Arv.start hfit Art_2 lnt_2.1 lnt_2.2 (by decide) rfl ⟨elt_2_0, elt_2_1, elt_2_2, trivial⟩
  obtain ⟨zc, ezc⟩ := is_v (Cond.before_iff.mp (hsets _ (List.mem_of_getElem? (i := 1) rfl)))
  have szc : Sta s s.heap oS0 oS3 "Z" (.int zc) := Sta.start ezc (Or.inl (hsets _ (List.mem_of_getElem? (i := 0) rfl)))
  have hzc : ¬ zc = (0 : Int32) := fun q0 => by
    have q := (hsets _ (List.mem_of_getElem? (i := 2) rfl))
    simp only [Cond.before, Cond.holds, Cond.value, ezc, q0] at q
    simp [Term.eval] at q
  obtain ⟨n, o, h1, h2, h3, _, L, rfl, hQ, hq⟩ := rm0 l s _ hw tables_1 p0 p1 p2 p3 p4 p5 a__VALUES cla__VALUES.cls a_V1_0 a_V2_0 t_1 tv_1 clt_1.cls t_2 tv_2 clt_2.cls zc s.heap s.heap.size (Nat.le_refl _) szc hzc sa__VALUES va__VALUES xa__VALUES sa_V1_0 sa_V2_0 xa_V1_0 xa_V2_0 ft_1 xt_1 fv_1 fc_1 vt_1 ft_2 xt_2 fv_2 fc_2 vt_2 p e ha hc hk s m _ below hf ((Spec.applies_iff_loose hf).mp happ).1 ⟨rfl, State.Warmed39.refl s, rfl, CHv.start (own_ew hw) (fun p hp => hcalls.1 p (own_el p hp)) (hsets _ (List.mem_of_getElem? (i := 2) rfl)) (own_hw hw 26) (own_hw hw 8)⟩ trivial
  obtain ⟨rfl, N, -⟩ := hQ
  refine ⟨n, _, h1, h2, h3, hpost _ _ _ _ _ _ ⟨Cond.after_iff.mpr rfl, Cond.after_iff.mpr (eq_i res_at (Term.int_eval (1)) rfl), trivial⟩ ⟨hq.1, hq.2.1, hq.2.2.1, (hq.2.2.2.sift fun y hy => Or.inr (N y hy)).mono (by decide) (by decide)⟩⟩
theorem main_1_1 : Claimed_1_1 := comes_1 fun _ _ _ _ _ _ h hF => ⟨h.1, hF⟩
theorem main_1_2 : Claimed_1_2 := comes_1 fun _ _ _ _ _ _ h hF => ⟨h.2.1, hF⟩
end Jvm.Pilot.@@N@@
namespace Jvm.Pilot.@@N@@
open Jvm Jvm.ClassFile Sem Op Lib Jvm.Free Jvm.Stand Jvm.Pilot.@@N@@.Jvm.D
/-! MADE BY PROGRAM (witnessworld.py) out of the Statement's table words and the real class files: 22 classes; the members and pool entries that the words name. The judged class is class 1, her method 4. -/
namespace start1
open Jvm.ClassFile
def u (s : String) : CpInfo := .utf8 (stringToUtf16 s)
/-- a pool by its gaps: so many unusable entries, then the entry; so many at the end -/
def gap : Nat → List CpInfo → List CpInfo
  | 0, r => r
  | n + 1, r => .unusable :: gap n r
def poolList (es : List (Nat × CpInfo)) (last : Nat) : List CpInfo := es.foldr (fun e r => gap e.1 (e.2 :: r)) (gap last [])
def pool (es : List (Nat × CpInfo)) (last : Nat) : Array CpInfo := ⟨poolList es last⟩
def fileOf (pool : Array CpInfo) (this : Nat) (attrs : Array Attribute := #[]) (ms : Array MethodInfo := #[]) (fl : Nat := 33) (sup : Nat := 0) (ifs : Array Nat := #[]) (fds : Array FieldInfo := #[]) : ClassFile where
  minorVersion := 0
  majorVersion := 65
  constantPool := pool
  accessFlags := fl
  thisClass := this
  superClass := sup
  interfaces := ifs
  fields := fds
  methods := ms
  attributes := attrs
def plain (name : String) (sup : Option ClassId) : Class where
  name := name
  kind := .ordinary
  loader := none
  accessFlags := 33
  super := sup
  interfaces := #[]
  cf := none
  fields := #[]
  methods := #[]
  instanceTypes := #[]
  staticTypes := #[]
  resolved := #[]
  callSites := []
  init := .initialized
  statics := none
  mirror := none

def pool0 : Array CpInfo := pool [(5, u "<init>"), (0, u "()V"), (1, .class_ 10), (1, u "java/lang/Object"), (85, u "clone"), (0, u "()Ljava/lang/Object;")] 26

def k0c0 : Code := { maxStack := 0, maxLocals := 1, code := object_method_1_code, exceptionTable := #[], attributes := #[] }
def k0m0 : Method := { name := "<init>", desc := "()V", sig := { parameters := [], returnType := none }, accessFlags := 1, code := some k0c0 }
def k0m1 : Method := { name := "clone", desc := "()Ljava/lang/Object;", sig := { parameters := [], returnType := some (.object "java/lang/Object") }, accessFlags := 260, code := none }
/-- java/lang/Object -/
def k0 : Class := { plain "java/lang/Object" none with
  accessFlags := 33
  interfaces := #[]
  cf := some (fileOf pool0 8 #[] #[{ accessFlags := 1, nameIndex := 5, descriptorIndex := 6, attributes := #[] }, { accessFlags := 260, nameIndex := 96, descriptorIndex := 97, attributes := #[] }] 33 0 #[] #[])
  fields := #[]
  methods := #[k0m0, k0m1]
  instanceTypes := #[]
  staticTypes := #[]
  resolved := Array.replicate 124 none
  statics := none }

def pool1 : Array CpInfo := pool [(2, .class_ 4), (1, u "java/lang/Object"), (0, u "<init>"), (0, u "()V"), (0, .methodref 8 9), (0, .class_ 10), (0, .nameAndType 11 12), (0, u "com/example/scatterkeep/scatterkeep/protocol/VersionOfPinLaw"), (0, u "pick"), (0, u "(I)C"), (0, .class_ 14), (0, u "java/lang/String"), (0, .methodref 13 16), (0, .nameAndType 5 17), (0, u "([C)V"), (0, .methodref 8 19), (0, .nameAndType 20 21), (0, u "ch"), (0, u "(IZ)C"), (0, .methodref 8 23), (0, .nameAndType 24 25), (0, u "str"), (0, u "(ICCCC)Ljava/lang/String;"), (0, .fieldref 27 28), (0, .class_ 29), (0, .nameAndType 30 31), (0, u "com/example/scatterkeep/scatterkeep/protocol/Version"), (0, u "V1_0"), (0, u "Lcom/example/scatterkeep/scatterkeep/protocol/Version;"), (0, .fieldref 27 33), (0, .nameAndType 34 31), (0, u "V2_0"), (0, .methodref 27 36), (0, .nameAndType 37 38), (0, u "of"), (0, u "(Ljava/lang/String;)Lcom/example/scatterkeep/scatterkeep/protocol/Version;"), (3, u "law"), (0, u "(IIIIII)Z")] 2

def k1m0 : Method := { name := "<init>", desc := "()V", sig := { parameters := [], returnType := none }, accessFlags := 1, code := none }
def k1c1 : Code := { maxStack := 2, maxLocals := 2, code := method_2_code, exceptionTable := #[], attributes := #[] }
def k1m1 : Method := { name := "pick", desc := "(I)C", sig := { parameters := [.int], returnType := some .char }, accessFlags := 10, code := some k1c1 }
def k1c2 : Code := { maxStack := 2, maxLocals := 2, code := method_3_code, exceptionTable := #[], attributes := #[] }
def k1m2 : Method := { name := "ch", desc := "(IZ)C", sig := { parameters := [.int, .boolean], returnType := some .char }, accessFlags := 10, code := some k1c2 }
def k1c3 : Code := { maxStack := 6, maxLocals := 5, code := method_4_code, exceptionTable := #[], attributes := #[] }
def k1m3 : Method := { name := "str", desc := "(ICCCC)Ljava/lang/String;", sig := { parameters := [.int, .char, .char, .char, .char], returnType := some (.object "java/lang/String") }, accessFlags := 10, code := some k1c3 }
def k1c4 : Code := { maxStack := 5, maxLocals := 15, code := code, exceptionTable := #[], attributes := #[] }
def k1m4 : Method := { name := "law", desc := "(IIIIII)Z", sig := { parameters := [.int, .int, .int, .int, .int, .int], returnType := some .boolean }, accessFlags := 9, code := some k1c4 }
/-- com/example/scatterkeep/scatterkeep/protocol/VersionOfPinLaw -/
def k1 : Class := { plain "com/example/scatterkeep/scatterkeep/protocol/VersionOfPinLaw" (some 0) with
  accessFlags := 49
  interfaces := #[]
  cf := some (fileOf pool1 8 #[] #[{ accessFlags := 1, nameIndex := 5, descriptorIndex := 6, attributes := #[] }, { accessFlags := 10, nameIndex := 11, descriptorIndex := 12, attributes := #[] }, { accessFlags := 10, nameIndex := 20, descriptorIndex := 21, attributes := #[] }, { accessFlags := 10, nameIndex := 24, descriptorIndex := 25, attributes := #[] }, { accessFlags := 9, nameIndex := 42, descriptorIndex := 43, attributes := #[] }] 49 2 #[] #[])
  fields := #[]
  methods := #[k1m0, k1m1, k1m2, k1m3, k1m4]
  instanceTypes := #[]
  staticTypes := #[]
  resolved := Array.replicate 46 none
  statics := none }

def pool2 : Array CpInfo := pool [(1, .class_ 2), (0, u "java/io/Serializable"), (0, .class_ 4), (0, u "java/lang/Object")] 2

/-- java/io/Serializable -/
def k2 : Class := { plain "java/io/Serializable" (some 0) with
  accessFlags := 1537
  interfaces := #[]
  cf := some (fileOf pool2 1 #[] #[] 1537 3 #[] #[])
  fields := #[]
  methods := #[]
  instanceTypes := #[]
  staticTypes := #[]
  resolved := Array.replicate 7 none
  statics := none }

def pool3 : Array CpInfo := pool [(1, .class_ 2), (0, u "java/lang/Comparable"), (0, .class_ 4), (0, u "java/lang/Object")] 7

/-- java/lang/Comparable -/
def k3 : Class := { plain "java/lang/Comparable" (some 0) with
  accessFlags := 1537
  interfaces := #[]
  cf := some (fileOf pool3 1 #[] #[] 1537 3 #[] #[])
  fields := #[]
  methods := #[]
  instanceTypes := #[]
  staticTypes := #[]
  resolved := Array.replicate 12 none
  statics := none }

def pool4 : Array CpInfo := pool [(2, .class_ 4), (1, u "java/lang/CharSequence"), (42, .class_ 48), (0, u "java/lang/CharSequence$1CodePointIterator"), (10, .class_ 60), (0, u "java/lang/CharSequence$1CharIterator"), (5, .class_ 67), (0, u "java/lang/Object")] 63

/-- java/lang/CharSequence -/
def k4 : Class := { plain "java/lang/CharSequence" (some 0) with
  accessFlags := 1537
  interfaces := #[]
  cf := some (fileOf pool4 2 #[.nestMembers #[47, 59]] #[] 1537 66 #[] #[])
  fields := #[]
  methods := #[]
  instanceTypes := #[]
  staticTypes := #[]
  resolved := Array.replicate 131 none
  statics := none }

def pool5 : Array CpInfo := pool [(1, .class_ 2), (0, u "java/lang/constant/Constable"), (0, .class_ 4), (0, u "java/lang/Object")] 6

/-- java/lang/constant/Constable -/
def k5 : Class := { plain "java/lang/constant/Constable" (some 0) with
  accessFlags := 1537
  interfaces := #[]
  cf := some (fileOf pool5 1 #[] #[] 1537 3 #[] #[])
  fields := #[]
  methods := #[]
  instanceTypes := #[]
  staticTypes := #[]
  resolved := Array.replicate 11 none
  statics := none }

def pool6 : Array CpInfo := pool [(1, .class_ 2), (0, u "java/lang/constant/ConstantDesc"), (0, .class_ 4), (0, u "java/lang/Object")] 32

/-- java/lang/constant/ConstantDesc -/
def k6 : Class := { plain "java/lang/constant/ConstantDesc" (some 0) with
  accessFlags := 1537
  interfaces := #[]
  cf := some (fileOf pool6 1 #[] #[] 1537 3 #[] #[])
  fields := #[]
  methods := #[]
  instanceTypes := #[]
  staticTypes := #[]
  resolved := Array.replicate 37 none
  statics := none }

def pool7 : Array CpInfo := pool [(1, .methodref 2 3), (0, .class_ 4), (0, .nameAndType 5 6), (0, u "java/lang/Object"), (0, u "<init>"), (0, u "()V"), (0, .string 8), (0, u ""), (0, .fieldref 10 11), (0, .class_ 12), (0, .nameAndType 13 14), (0, u "java/lang/String"), (0, u "value"), (0, u "[B"), (0, .fieldref 10 16), (0, .nameAndType 17 18), (0, u "coder"), (0, u "B"), (2, u "hash"), (0, u "I"), (2, u "hashIsZero"), (0, u "Z"), (0, .methodref 10 28), (0, .nameAndType 5 29), (0, u "([CIILjava/lang/Void;)V"), (8, .fieldref 10 39), (0, .nameAndType 40 26), (0, u "COMPACT_STRINGS"), (1, .class_ 44), (1, u "java/lang/StringUTF16"), (0, u "compress"), (1, .methodref 42 48), (0, .nameAndType 49 50), (0, u "coderFromArrayLen"), (0, u "([BI)B"), (56, .class_ 109), (1, u "java/lang/StringLatin1"), (67, .methodref 42 178), (0, .nameAndType 45 179), (0, u "([CII)[B"), (361, .methodref 107 542), (0, .nameAndType 543 544), (0, u "equals"), (0, u "([B[B)Z"), (28, u "(Ljava/lang/Object;)Z"), (1, .class_ 576), (0, u "java/lang/CharSequence"), (22, u "CASE_INSENSITIVE_ORDER"), (0, u "Ljava/util/Comparator;"), (409, u "([C)V"), (90, u "serialPersistentFields"), (0, u "[Ljava/io/ObjectStreamField;"), (0, .class_ 1104), (0, u "java/lang/String$CaseInsensitiveComparator"), (1, .class_ 1107), (0, u "java/io/Serializable"), (0, .class_ 1109), (0, u "java/lang/Comparable"), (0, .class_ 1111), (0, u "java/lang/constant/Constable"), (0, .class_ 1113), (0, u "java/lang/constant/ConstantDesc"), (2, u "serialVersionUID"), (0, u "J"), (3, u "REPL"), (0, u "C"), (2, u "LATIN1"), (1, u "UTF16")] 323

def k7m0 : Method := { name := "<init>", desc := "()V", sig := { parameters := [], returnType := none }, accessFlags := 1, code := none }
def k7c1 : Code := { maxStack := 5, maxLocals := 2, code := jdk_42_method_3_code, exceptionTable := #[], attributes := #[] }
def k7m1 : Method := { name := "<init>", desc := "([C)V", sig := { parameters := [(.array .char)], returnType := none }, accessFlags := 1, code := some k7c1 }
def k7c2 : Code := { maxStack := 2, maxLocals := 3, code := jdk_42_method_66_code, exceptionTable := #[], attributes := #[] }
def k7m2 : Method := { name := "equals", desc := "(Ljava/lang/Object;)Z", sig := { parameters := [(.object "java/lang/Object")], returnType := some .boolean }, accessFlags := 1, code := some k7c2 }
def k7c3 : Code := { maxStack := 4, maxLocals := 6, code := jdk_42_method_149_code, exceptionTable := #[], attributes := #[] }
def k7m3 : Method := { name := "<init>", desc := "([CIILjava/lang/Void;)V", sig := { parameters := [(.array .char), .int, .int, (.object "java/lang/Void")], returnType := none }, accessFlags := 2, code := some k7c3 }
/-- java/lang/String -/
def k7 : Class := { plain "java/lang/String" (some 0) with
  accessFlags := 49
  interfaces := #[2, 3, 4, 5, 6]
  cf := some (fileOf pool7 10 #[.nestMembers #[1103]] #[{ accessFlags := 1, nameIndex := 5, descriptorIndex := 6, attributes := #[] }, { accessFlags := 1, nameIndex := 5, descriptorIndex := 1010, attributes := #[] }, { accessFlags := 1, nameIndex := 543, descriptorIndex := 573, attributes := #[] }, { accessFlags := 2, nameIndex := 5, descriptorIndex := 29, attributes := #[] }] 49 2 #[1106, 1108, 575, 1110, 1112] #[{ accessFlags := 18, nameIndex := 13, descriptorIndex := 14, attributes := #[] }, { accessFlags := 18, nameIndex := 17, descriptorIndex := 18, attributes := #[] }, { accessFlags := 2, nameIndex := 21, descriptorIndex := 22, attributes := #[] }, { accessFlags := 2, nameIndex := 25, descriptorIndex := 26, attributes := #[] }, { accessFlags := 26, nameIndex := 1116, descriptorIndex := 1117, attributes := #[] }, { accessFlags := 24, nameIndex := 40, descriptorIndex := 26, attributes := #[] }, { accessFlags := 26, nameIndex := 1101, descriptorIndex := 1102, attributes := #[] }, { accessFlags := 26, nameIndex := 1121, descriptorIndex := 1122, attributes := #[] }, { accessFlags := 25, nameIndex := 599, descriptorIndex := 600, attributes := #[] }, { accessFlags := 24, nameIndex := 1125, descriptorIndex := 18, attributes := #[] }, { accessFlags := 24, nameIndex := 1127, descriptorIndex := 18, attributes := #[] }])
  fields := #[{ name := "value", type := (.array .byte), accessFlags := 18, slot := 0, constantValue := 0 }, { name := "coder", type := .byte, accessFlags := 18, slot := 1, constantValue := 0 }, { name := "hash", type := .int, accessFlags := 2, slot := 2, constantValue := 0 }, { name := "hashIsZero", type := .boolean, accessFlags := 2, slot := 3, constantValue := 0 }, { name := "serialVersionUID", type := .long, accessFlags := 26, slot := 0, constantValue := 0 }, { name := "COMPACT_STRINGS", type := .boolean, accessFlags := 24, slot := 1, constantValue := 0 }, { name := "serialPersistentFields", type := (.array (.object "java/io/ObjectStreamField")), accessFlags := 26, slot := 2, constantValue := 0 }, { name := "REPL", type := .char, accessFlags := 26, slot := 3, constantValue := 0 }, { name := "CASE_INSENSITIVE_ORDER", type := (.object "java/util/Comparator"), accessFlags := 25, slot := 4, constantValue := 0 }, { name := "LATIN1", type := .byte, accessFlags := 24, slot := 5, constantValue := 0 }, { name := "UTF16", type := .byte, accessFlags := 24, slot := 6, constantValue := 0 }]
  methods := #[k7m0, k7m1, k7m2, k7m3]
  instanceTypes := #[(.array .byte), .byte, .int, .boolean]
  staticTypes := #[.long, .boolean, (.array (.object "java/io/ObjectStreamField")), .char, (.object "java/util/Comparator"), .byte, .byte]
  resolved := Array.replicate 1451 none
  statics := some 0 }

def pool8 : Array CpInfo := pool [(6, .class_ 8), (1, u "java/lang/Object"), (0, u "<init>"), (0, u "()V"), (1, .class_ 14), (1, u "java/lang/StringUTF16"), (31, u "$assertionsDisabled"), (0, u "Z"), (13, u "HI_BYTE_SHIFT"), (0, u "I"), (2, u "LO_BYTE_SHIFT"), (49, .methodref 12 116), (0, .nameAndType 117 118), (0, u "compress"), (0, u "([CI[BII)I"), (3, u "([CII)[B"), (138, u "coderFromArrayLen"), (0, u "([BI)B"), (106, .class_ 371), (1, u "java/lang/StringUTF16$LinesSpliterator"), (58, u "MAX_LENGTH"), (196, .class_ 628), (0, u "java/lang/StringUTF16$CodePointsSpliterator"), (0, .class_ 630), (0, u "java/lang/StringUTF16$CharsSpliterator")] 4

def k8m0 : Method := { name := "<init>", desc := "()V", sig := { parameters := [], returnType := none }, accessFlags := 0, code := none }
def k8c1 : Code := { maxStack := 2, maxLocals := 2, code := jdk_52_method_15_code, exceptionTable := #[], attributes := #[] }
def k8m1 : Method := { name := "coderFromArrayLen", desc := "([BI)B", sig := { parameters := [(.array .byte), .int], returnType := some .byte }, accessFlags := 8, code := some k8c1 }
def k8c2 : Code := { maxStack := 5, maxLocals := 6, code := jdk_52_method_16_code, exceptionTable := #[], attributes := #[] }
def k8m2 : Method := { name := "compress", desc := "([CII)[B", sig := { parameters := [(.array .char), .int, .int], returnType := some (.array .byte) }, accessFlags := 9, code := some k8c2 }
def k8c3 : Code := { maxStack := 3, maxLocals := 7, code := jdk_52_method_21_code, exceptionTable := #[], attributes := #[] }
def k8m3 : Method := { name := "compress", desc := "([CI[BII)I", sig := { parameters := [(.array .char), .int, (.array .byte), .int, .int], returnType := some .int }, accessFlags := 9, code := some k8c3 }
/-- java/lang/StringUTF16 -/
def k8 : Class := { plain "java/lang/StringUTF16" (some 0) with
  accessFlags := 48
  interfaces := #[]
  cf := some (fileOf pool8 12 #[.nestMembers #[627, 629, 369]] #[{ accessFlags := 0, nameIndex := 9, descriptorIndex := 10, attributes := #[] }, { accessFlags := 8, nameIndex := 261, descriptorIndex := 262, attributes := #[] }, { accessFlags := 9, nameIndex := 117, descriptorIndex := 122, attributes := #[] }, { accessFlags := 9, nameIndex := 117, descriptorIndex := 118, attributes := #[] }] 48 6 #[] #[{ accessFlags := 26, nameIndex := 61, descriptorIndex := 62, attributes := #[] }, { accessFlags := 26, nameIndex := 65, descriptorIndex := 62, attributes := #[] }, { accessFlags := 24, nameIndex := 430, descriptorIndex := 62, attributes := #[] }, { accessFlags := 4120, nameIndex := 46, descriptorIndex := 47, attributes := #[] }])
  fields := #[{ name := "HI_BYTE_SHIFT", type := .int, accessFlags := 26, slot := 0, constantValue := 0 }, { name := "LO_BYTE_SHIFT", type := .int, accessFlags := 26, slot := 1, constantValue := 0 }, { name := "MAX_LENGTH", type := .int, accessFlags := 24, slot := 2, constantValue := 0 }, { name := "$assertionsDisabled", type := .boolean, accessFlags := 4120, slot := 3, constantValue := 0 }]
  methods := #[k8m0, k8m1, k8m2, k8m3]
  instanceTypes := #[]
  staticTypes := #[.int, .int, .int, .boolean]
  resolved := Array.replicate 635 none
  statics := none }

def pool9 : Array CpInfo := pool [(2, .class_ 4), (1, u "java/lang/Enum"), (0, u "name"), (0, u "Ljava/lang/String;"), (2, u "ordinal"), (0, u "I"), (1, .class_ 14), (1, u "java/lang/Object"), (4, u "hash"), (86, .class_ 108), (1, u "java/lang/Enum$EnumDesc"), (2, .class_ 112), (0, u "java/lang/constant/Constable"), (0, .class_ 114), (0, u "java/lang/Comparable"), (0, .class_ 116), (0, u "java/io/Serializable")] 87

/-- java/lang/Enum -/
def k9 : Class := { plain "java/lang/Enum" (some 0) with
  accessFlags := 1057
  interfaces := #[5, 3, 2]
  cf := some (fileOf pool9 2 #[.nestMembers #[106]] #[] 1057 12 #[111, 113, 115] #[{ accessFlags := 18, nameIndex := 5, descriptorIndex := 6, attributes := #[] }, { accessFlags := 18, nameIndex := 9, descriptorIndex := 10, attributes := #[] }, { accessFlags := 2, nameIndex := 19, descriptorIndex := 10, attributes := #[] }])
  fields := #[{ name := "name", type := (.object "java/lang/String"), accessFlags := 18, slot := 0, constantValue := 0 }, { name := "ordinal", type := .int, accessFlags := 18, slot := 1, constantValue := 0 }, { name := "hash", type := .int, accessFlags := 2, slot := 2, constantValue := 0 }]
  methods := #[]
  instanceTypes := #[(.object "java/lang/String"), .int, .int]
  staticTypes := #[]
  resolved := Array.replicate 204 none
  statics := none }

def pool10 : Array CpInfo := pool [(1, .class_ 2), (0, u "com/example/scatterkeep/scatterkeep/protocol/Version"), (2, u "V1_0"), (0, u "Lcom/example/scatterkeep/scatterkeep/protocol/Version;"), (2, u "V2_0"), (0, .fieldref 1 11), (0, .nameAndType 12 13), (0, u "$VALUES"), (0, u "[Lcom/example/scatterkeep/scatterkeep/protocol/Version;"), (0, .methodref 15 16), (0, .class_ 13), (0, .nameAndType 17 18), (0, u "clone"), (0, u "()Ljava/lang/Object;"), (1, .class_ 22), (1, u "java/lang/Enum"), (6, .fieldref 1 30), (0, .nameAndType 31 32), (0, u "m_sText"), (0, u "Ljava/lang/String;"), (0, .methodref 1 34), (0, .nameAndType 35 36), (0, u "values"), (0, u "()[Lcom/example/scatterkeep/scatterkeep/protocol/Version;"), (0, .methodref 38 39), (0, .class_ 40), (0, .nameAndType 41 42), (0, u "java/lang/String"), (0, u "equals"), (0, u "(Ljava/lang/Object;)Z"), (8, u "of"), (0, u "(Ljava/lang/String;)Lcom/example/scatterkeep/scatterkeep/protocol/Version;")] 30

def k10c0 : Code := { maxStack := 1, maxLocals := 0, code := prog_60_method_1_code, exceptionTable := #[], attributes := #[] }
def k10m0 : Method := { name := "values", desc := "()[Lcom/example/scatterkeep/scatterkeep/protocol/Version;", sig := { parameters := [], returnType := some (.array (.object "com/example/scatterkeep/scatterkeep/protocol/Version")) }, accessFlags := 9, code := some k10c0 }
def k10c1 : Code := { maxStack := 2, maxLocals := 5, code := prog_60_method_5_code, exceptionTable := #[], attributes := #[] }
def k10m1 : Method := { name := "of", desc := "(Ljava/lang/String;)Lcom/example/scatterkeep/scatterkeep/protocol/Version;", sig := { parameters := [(.object "java/lang/String")], returnType := some (.object "com/example/scatterkeep/scatterkeep/protocol/Version") }, accessFlags := 9, code := some k10c1 }
/-- com/example/scatterkeep/scatterkeep/protocol/Version -/
def k10 : Class := { plain "com/example/scatterkeep/scatterkeep/protocol/Version" (some 9) with
  accessFlags := 16433
  interfaces := #[]
  cf := some (fileOf pool10 1 #[] #[{ accessFlags := 9, nameIndex := 35, descriptorIndex := 36, attributes := #[] }, { accessFlags := 9, nameIndex := 51, descriptorIndex := 52, attributes := #[] }] 16433 20 #[] #[{ accessFlags := 16409, nameIndex := 5, descriptorIndex := 6, attributes := #[] }, { accessFlags := 16409, nameIndex := 9, descriptorIndex := 6, attributes := #[] }, { accessFlags := 18, nameIndex := 31, descriptorIndex := 32, attributes := #[] }, { accessFlags := 4122, nameIndex := 12, descriptorIndex := 13, attributes := #[] }])
  fields := #[{ name := "V1_0", type := (.object "com/example/scatterkeep/scatterkeep/protocol/Version"), accessFlags := 16409, slot := 0, constantValue := 0 }, { name := "V2_0", type := (.object "com/example/scatterkeep/scatterkeep/protocol/Version"), accessFlags := 16409, slot := 1, constantValue := 0 }, { name := "m_sText", type := (.object "java/lang/String"), accessFlags := 18, slot := 3, constantValue := 0 }, { name := "$VALUES", type := (.array (.object "com/example/scatterkeep/scatterkeep/protocol/Version")), accessFlags := 4122, slot := 2, constantValue := 0 }]
  methods := #[k10m0, k10m1]
  instanceTypes := #[(.object "java/lang/String"), .int, .int, (.object "java/lang/String")]
  staticTypes := #[(.object "com/example/scatterkeep/scatterkeep/protocol/Version"), (.object "com/example/scatterkeep/scatterkeep/protocol/Version"), (.array (.object "com/example/scatterkeep/scatterkeep/protocol/Version"))]
  resolved := Array.replicate 83 none
  statics := some 1 }

def pool11 : Array CpInfo := pool [(1, .class_ 2), (0, u "java/lang/Cloneable"), (0, .class_ 4), (0, u "java/lang/Object")] 2

/-- java/lang/Cloneable -/
def k11 : Class := { plain "java/lang/Cloneable" (some 0) with
  accessFlags := 1537
  interfaces := #[]
  cf := some (fileOf pool11 1 #[] #[] 1537 3 #[] #[])
  fields := #[]
  methods := #[]
  instanceTypes := #[]
  staticTypes := #[]
  resolved := Array.replicate 7 none
  statics := none }

def pool12 : Array CpInfo := pool [(4, .class_ 6), (1, u "java/lang/Object"), (0, u "<init>"), (0, u "()V"), (5, .class_ 16), (1, u "java/lang/StringLatin1"), (104, u "$assertionsDisabled"), (0, u "Z"), (98, .class_ 223), (1, u "java/lang/StringLatin1$LinesSpliterator"), (57, u "equals"), (0, u "([B[B)Z"), (107, .class_ 391), (0, u "java/lang/StringLatin1$CharsSpliterator")] 3

def k12m0 : Method := { name := "<init>", desc := "()V", sig := { parameters := [], returnType := none }, accessFlags := 0, code := none }
def k12c1 : Code := { maxStack := 3, maxLocals := 3, code := jdk_43_method_13_code, exceptionTable := #[], attributes := #[] }
def k12m1 : Method := { name := "equals", desc := "([B[B)Z", sig := { parameters := [(.array .byte), (.array .byte)], returnType := some .boolean }, accessFlags := 9, code := some k12c1 }
/-- java/lang/StringLatin1 -/
def k12 : Class := { plain "java/lang/StringLatin1" (some 0) with
  accessFlags := 48
  interfaces := #[]
  cf := some (fileOf pool12 14 #[.nestMembers #[390, 221]] #[{ accessFlags := 0, nameIndex := 7, descriptorIndex := 8, attributes := #[] }, { accessFlags := 9, nameIndex := 281, descriptorIndex := 282, attributes := #[] }] 48 4 #[] #[{ accessFlags := 4120, nameIndex := 121, descriptorIndex := 122, attributes := #[] }])
  fields := #[{ name := "$assertionsDisabled", type := .boolean, accessFlags := 4120, slot := 0, constantValue := 0 }]
  methods := #[k12m0, k12m1]
  instanceTypes := #[]
  staticTypes := #[.boolean]
  resolved := Array.replicate 395 none
  statics := none }

def pool13 : Array CpInfo := pool [(2, .class_ 4), (1, u "java/lang/Object"), (0, u "<init>"), (0, u "()V"), (17, .class_ 26), (1, u "jdk/internal/util/Preconditions"), (28, .class_ 56), (0, u "jdk/internal/util/Preconditions$4"), (57, .class_ 115), (0, u "jdk/internal/util/Preconditions$1"), (7, u "SIOOBE_FORMATTER"), (0, u "Ljava/util/function/BiFunction;"), (0, .class_ 126), (0, u "jdk/internal/util/Preconditions$2"), (3, u "AIOOBE_FORMATTER"), (0, .class_ 132), (0, u "jdk/internal/util/Preconditions$3"), (3, u "IOOBE_FORMATTER")] 57

def k13m0 : Method := { name := "<init>", desc := "()V", sig := { parameters := [], returnType := none }, accessFlags := 1, code := none }
/-- jdk/internal/util/Preconditions -/
def k13 : Class := { plain "jdk/internal/util/Preconditions" (some 0) with
  accessFlags := 33
  interfaces := #[]
  cf := some (fileOf pool13 24 #[.nestMembers #[55, 131, 125, 114]] #[{ accessFlags := 1, nameIndex := 5, descriptorIndex := 6, attributes := #[] }] 33 2 #[] #[{ accessFlags := 25, nameIndex := 123, descriptorIndex := 124, attributes := #[] }, { accessFlags := 25, nameIndex := 130, descriptorIndex := 124, attributes := #[] }, { accessFlags := 25, nameIndex := 136, descriptorIndex := 124, attributes := #[] }])
  fields := #[{ name := "SIOOBE_FORMATTER", type := (.object "java/util/function/BiFunction"), accessFlags := 25, slot := 0, constantValue := 0 }, { name := "AIOOBE_FORMATTER", type := (.object "java/util/function/BiFunction"), accessFlags := 25, slot := 1, constantValue := 0 }, { name := "IOOBE_FORMATTER", type := (.object "java/util/function/BiFunction"), accessFlags := 25, slot := 2, constantValue := 0 }]
  methods := #[k13m0]
  instanceTypes := #[]
  staticTypes := #[(.object "java/util/function/BiFunction"), (.object "java/util/function/BiFunction"), (.object "java/util/function/BiFunction")]
  resolved := Array.replicate 194 none
  statics := some 2 }

def pool14 : Array CpInfo := pool [(9, u "<init>"), (6, .class_ 18), (1, u "java/lang/Object"), (0, u "()V"), (1, .class_ 23), (1, u "jdk/internal/util/ArraysSupport"), (0, u "LOG2_ARRAY_LONG_INDEX_SCALE"), (0, u "I"), (2, u "U"), (0, u "Ljdk/internal/misc/Unsafe;"), (8, u "BIG_ENDIAN"), (0, u "Z"), (8, u "LOG2_BYTE_BIT_SIZE"), (4, u "LOG2_ARRAY_INT_INDEX_SCALE"), (54, u "JLA"), (0, u "Ljdk/internal/access/JavaLangAccess;"), (11, u "LOG2_ARRAY_BOOLEAN_INDEX_SCALE"), (9, u "LOG2_ARRAY_BYTE_INDEX_SCALE"), (5, u "LOG2_ARRAY_CHAR_INDEX_SCALE"), (5, u "LOG2_ARRAY_SHORT_INDEX_SCALE"), (18, u "LOG2_ARRAY_FLOAT_INDEX_SCALE"), (24, u "LOG2_ARRAY_DOUBLE_INDEX_SCALE"), (89, u "T_BOOLEAN"), (2, u "T_CHAR"), (1, u "T_FLOAT"), (1, u "T_DOUBLE"), (1, u "T_BYTE"), (1, u "T_SHORT"), (1, u "T_INT"), (1, u "T_LONG"), (1, u "SOFT_MAX_ARRAY_LENGTH")] 83

def k14m0 : Method := { name := "<init>", desc := "()V", sig := { parameters := [], returnType := none }, accessFlags := 2, code := none }
/-- jdk/internal/util/ArraysSupport -/
def k14 : Class := { plain "jdk/internal/util/ArraysSupport" (some 0) with
  accessFlags := 33
  interfaces := #[]
  cf := some (fileOf pool14 21 #[] #[{ accessFlags := 2, nameIndex := 9, descriptorIndex := 19, attributes := #[] }] 33 16 #[] #[{ accessFlags := 24, nameIndex := 28, descriptorIndex := 29, attributes := #[] }, { accessFlags := 26, nameIndex := 38, descriptorIndex := 39, attributes := #[] }, { accessFlags := 25, nameIndex := 121, descriptorIndex := 25, attributes := #[] }, { accessFlags := 25, nameIndex := 131, descriptorIndex := 25, attributes := #[] }, { accessFlags := 25, nameIndex := 137, descriptorIndex := 25, attributes := #[] }, { accessFlags := 25, nameIndex := 143, descriptorIndex := 25, attributes := #[] }, { accessFlags := 25, nameIndex := 53, descriptorIndex := 25, attributes := #[] }, { accessFlags := 25, nameIndex := 24, descriptorIndex := 25, attributes := #[] }, { accessFlags := 25, nameIndex := 162, descriptorIndex := 25, attributes := #[] }, { accessFlags := 25, nameIndex := 187, descriptorIndex := 25, attributes := #[] }, { accessFlags := 26, nameIndex := 48, descriptorIndex := 25, attributes := #[] }, { accessFlags := 25, nameIndex := 277, descriptorIndex := 25, attributes := #[] }, { accessFlags := 25, nameIndex := 280, descriptorIndex := 25, attributes := #[] }, { accessFlags := 25, nameIndex := 282, descriptorIndex := 25, attributes := #[] }, { accessFlags := 25, nameIndex := 284, descriptorIndex := 25, attributes := #[] }, { accessFlags := 25, nameIndex := 286, descriptorIndex := 25, attributes := #[] }, { accessFlags := 25, nameIndex := 288, descriptorIndex := 25, attributes := #[] }, { accessFlags := 25, nameIndex := 290, descriptorIndex := 25, attributes := #[] }, { accessFlags := 25, nameIndex := 292, descriptorIndex := 25, attributes := #[] }, { accessFlags := 26, nameIndex := 108, descriptorIndex := 109, attributes := #[] }, { accessFlags := 25, nameIndex := 294, descriptorIndex := 25, attributes := #[] }])
  fields := #[{ name := "U", type := (.object "jdk/internal/misc/Unsafe"), accessFlags := 24, slot := 0, constantValue := 0 }, { name := "BIG_ENDIAN", type := .boolean, accessFlags := 26, slot := 1, constantValue := 0 }, { name := "LOG2_ARRAY_BOOLEAN_INDEX_SCALE", type := .int, accessFlags := 25, slot := 2, constantValue := 0 }, { name := "LOG2_ARRAY_BYTE_INDEX_SCALE", type := .int, accessFlags := 25, slot := 3, constantValue := 0 }, { name := "LOG2_ARRAY_CHAR_INDEX_SCALE", type := .int, accessFlags := 25, slot := 4, constantValue := 0 }, { name := "LOG2_ARRAY_SHORT_INDEX_SCALE", type := .int, accessFlags := 25, slot := 5, constantValue := 0 }, { name := "LOG2_ARRAY_INT_INDEX_SCALE", type := .int, accessFlags := 25, slot := 6, constantValue := 0 }, { name := "LOG2_ARRAY_LONG_INDEX_SCALE", type := .int, accessFlags := 25, slot := 7, constantValue := 0 }, { name := "LOG2_ARRAY_FLOAT_INDEX_SCALE", type := .int, accessFlags := 25, slot := 8, constantValue := 0 }, { name := "LOG2_ARRAY_DOUBLE_INDEX_SCALE", type := .int, accessFlags := 25, slot := 9, constantValue := 0 }, { name := "LOG2_BYTE_BIT_SIZE", type := .int, accessFlags := 26, slot := 10, constantValue := 0 }, { name := "T_BOOLEAN", type := .int, accessFlags := 25, slot := 11, constantValue := 0 }, { name := "T_CHAR", type := .int, accessFlags := 25, slot := 12, constantValue := 0 }, { name := "T_FLOAT", type := .int, accessFlags := 25, slot := 13, constantValue := 0 }, { name := "T_DOUBLE", type := .int, accessFlags := 25, slot := 14, constantValue := 0 }, { name := "T_BYTE", type := .int, accessFlags := 25, slot := 15, constantValue := 0 }, { name := "T_SHORT", type := .int, accessFlags := 25, slot := 16, constantValue := 0 }, { name := "T_INT", type := .int, accessFlags := 25, slot := 17, constantValue := 0 }, { name := "T_LONG", type := .int, accessFlags := 25, slot := 18, constantValue := 0 }, { name := "JLA", type := (.object "jdk/internal/access/JavaLangAccess"), accessFlags := 26, slot := 19, constantValue := 0 }, { name := "SOFT_MAX_ARRAY_LENGTH", type := .int, accessFlags := 25, slot := 20, constantValue := 0 }]
  methods := #[k14m0]
  instanceTypes := #[]
  staticTypes := #[(.object "jdk/internal/misc/Unsafe"), .boolean, .int, .int, .int, .int, .int, .int, .int, .int, .int, .int, .int, .int, .int, .int, .int, .int, .int, (.object "jdk/internal/access/JavaLangAccess"), .int]
  resolved := Array.replicate 378 none
  statics := none }

/-- the primitive byte -/
def k15 : Class := { plain "byte" none with kind := .primitive 'B', accessFlags := 0x411 }
/-- [B -/
def k16 : Class := { plain "[B" (some 0) with kind := .array 15 .byte, interfaces := #[11, 2], accessFlags := 1041 }

/-- the primitive char -/
def k17 : Class := { plain "char" none with kind := .primitive 'C', accessFlags := 0x411 }
/-- [C -/
def k18 : Class := { plain "[C" (some 0) with kind := .array 17 .char, interfaces := #[11, 2], accessFlags := 1041 }

/-- the primitive int -/
def k19 : Class := { plain "int" none with kind := .primitive 'I', accessFlags := 0x411 }
/-- [I -/
def k20 : Class := { plain "[I" (some 0) with kind := .array 19 .int, interfaces := #[11, 2], accessFlags := 1041 }

/-- [Lcom/example/scatterkeep/scatterkeep/protocol/Version; -/
def k21 : Class := { plain "[Lcom/example/scatterkeep/scatterkeep/protocol/Version;" (some 0) with kind := .array 10 (.object "com/example/scatterkeep/scatterkeep/protocol/Version"), interfaces := #[11, 2], accessFlags := 1041 }

def heap : Heap := #[{ cls := 7, slots := #[.long 0, .int 1, .null, .int 0, .null, .int 0, .int 0], vm := .statics 7 },
  { cls := 10, slots := #[.ref 4, .ref 5, .ref 3], vm := .statics 10 },
  { cls := 13, slots := #[.null, .null, .null], vm := .statics 13 },
  { cls := 21, slots := #[.ref 4, .ref 5], vm := .none },
  { cls := 10, slots := #[.null, .int 0, .int 0, .ref 6], vm := .none },
  { cls := 10, slots := #[.null, .int 1, .int 0, .ref 7], vm := .none },
  { cls := 7, slots := #[.ref 8, .int 0, .int 0, .int 0], vm := .none },
  { cls := 7, slots := #[.ref 9, .int 0, .int 0, .int 0], vm := .none },
  { cls := 16, slots := #[.int 49, .int 46, .int 48], vm := .none },
  { cls := 16, slots := #[.int 50, .int 46, .int 48], vm := .none }]
def classes : Array Class := #[k0, k1, k2, k3, k4, k5, k6, k7, k8, k9, k10, k11, k12, k13, k14, k15, k16, k17, k18, k19, k20, k21]
def interned : List (Array UInt16 × Addr) := []
def slotsUsed : Nat := 37
def theMethod : MethodId := ⟨1, 4⟩
def args0 : Array Value := #[.int 5, .int 7, .int 3, .int 4, .int 3, .int 4]
def aboutOver (below : List Frame) : State where
  vm := { classes := classes, interned := interned.toArray }
  heap := heap
  slotsUsed := slotsUsed
  threads := #[{ frames := .invoking theMethod args0 :: below }]
def below0 : List Frame := [.native { method := ⟨0, 0⟩, args := #[] }]
def about1 : State := aboutOver below0
def p0 : Program := .bare "" "" ""
def e0 : Env := launch0.env 0 0 0
theorem w_frames : about1.frames = Frame.invoking theMethod args0 :: below0 := rfl
set_option maxRecDepth 65536 in
theorem w_args : argsFit about1.vm theMethod args0 = true := by decide +kernel
set_option maxRecDepth 65536 in
theorem w_heap : heapFits about1 = true := by decide +kernel
set_option maxRecDepth 65536 in
theorem w_runnable : about1.curStatus? = some .runnable := by decide +kernel
set_option maxRecDepth 65536 in
theorem w_alone : about1.alone = true := by decide +kernel
set_option maxRecDepth 65536 in
theorem w_named : about1.methodNamed? x = some theMethod := by decide +kernel
set_option maxRecDepth 65536 in
theorem w_hears : about1.hears theMethod below0 = true := by decide +kernel
set_option maxRecDepth 65536 in
theorem w_ripe : about1.ripe theMethod args0 below0 = true := by decide +kernel
theorem w_running : about1.status = .running := rfl
set_option maxRecDepth 65536 in
theorem w_room : about1.hasRoom e0.platform room_1 = true :=
  launch0.hasRoom_least _ room_1 (by decide +kernel) (by decide +kernel) (by decide +kernel) (by decide +kernel) (by decide +kernel) (by decide +kernel)
theorem allAtoms_all (ts : List Jvm.Cond) (a : Array Jvm.Value) (st : Jvm.State) : (allAtoms ts).before a st = ts.all (fun c => c.before a st) := by
  induction ts with
  | nil => rfl
  | cons c t ih =>
    show (Jvm.Cond.and c (allAtoms t)).before a st = _
    rw [Jvm.Cond.before_and, ih, List.all_cons]
def words1 : List Jvm.Cond := Jvm.Cond.code x code maxLocals ret :: tables_1
/-- a 'code' word, met by the world's own term for the bytes: nothing is compared byte by byte -/
theorem code_word {y : MethodName} {bytes : ByteArray} {mx : Nat} {rt : Option FieldType} {a : Array Value} {s : State} {m : MethodId} {meth : Method} {c : Code} (h1 : s.methodNamed? y = some m) (h2 : s.vm.method? m = some meth) (h3 : meth.code = some c) (h4 : c.code = bytes)
    (h5 : (c.maxLocals == mx && c.exceptionTable.isEmpty && decide (c.maxStack ≤ mostOperands) && decide (meth.sig.returnType = rt) && !meth.locks && decide (parseMethodDescriptor y.desc = some meth.sig)) = true) : (Jvm.Cond.code y bytes mx rt).before a s = true := by
  simp only [Bool.and_eq_true, beq_iff_eq, Bool.not_eq_true', decide_eq_true_eq] at h5
  obtain ⟨⟨⟨⟨⟨g1, g2⟩, g3⟩, g4⟩, g5⟩, g6⟩ := h5
  simp [Cond.before, Cond.holds, Cond.value, h1, h2, h3, h4, g1, g2, g3, g4, g5, g6]
def isCode : Jvm.Cond → Bool
  | .code _ _ _ _ => true
  | _ => false
theorem all_split {L : List Jvm.Cond} {P : Jvm.Cond → Bool} (h1 : L.all (fun c => isCode c || P c) = true) (h2 : ∀ c ∈ L.filter isCode, P c = true) : L.all P = true := by
  refine List.all_eq_true.mpr fun c hc => ?_
  have h := List.all_eq_true.mp h1 c hc
  rcases Bool.eq_false_or_eq_true (isCode c) with hi | hi
  · exact h2 c (List.mem_filter.mpr ⟨hc, hi⟩)
  · simpa [hi] using h
set_option maxRecDepth 65536 in
theorem w_c0 : (Jvm.Cond.code x code maxLocals ret).before args0 about1 = true := code_word (m := ⟨1, 4⟩) (meth := k1m4) (c := k1c4) (by decide +kernel) rfl rfl rfl (by decide +kernel)
set_option maxRecDepth 65536 in
theorem w_c1 : (Jvm.Cond.code ({ cls := "com/example/scatterkeep/scatterkeep/protocol/VersionOfPinLaw", name := "ch", desc := "(IZ)C" } : Jvm.MethodName) method_3_code (2 : Nat) (Option.some Jvm.ClassFile.FieldType.char)).before args0 about1 = true := code_word (m := ⟨1, 2⟩) (meth := k1m2) (c := k1c2) (by decide +kernel) rfl rfl rfl (by decide +kernel)
set_option maxRecDepth 65536 in
theorem w_c2 : (Jvm.Cond.code ({ cls := "com/example/scatterkeep/scatterkeep/protocol/VersionOfPinLaw", name := "str", desc := "(ICCCC)Ljava/lang/String;" } : Jvm.MethodName) method_4_code (5 : Nat) (Option.some (Jvm.ClassFile.FieldType.object "java/lang/String"))).before args0 about1 = true := code_word (m := ⟨1, 3⟩) (meth := k1m3) (c := k1c3) (by decide +kernel) rfl rfl rfl (by decide +kernel)
set_option maxRecDepth 65536 in
theorem w_c3 : (Jvm.Cond.code ({ cls := "java/lang/String", name := "<init>", desc := "([C)V" } : Jvm.MethodName) jdk_42_method_3_code (2 : Nat) (Option.none : Option Jvm.ClassFile.FieldType)).before args0 about1 = true := code_word (m := ⟨7, 1⟩) (meth := k7m1) (c := k7c1) (by decide +kernel) rfl rfl rfl (by decide +kernel)
set_option maxRecDepth 65536 in
theorem w_c4 : (Jvm.Cond.code ({ cls := "java/lang/String", name := "<init>", desc := "([CIILjava/lang/Void;)V" } : Jvm.MethodName) jdk_42_method_149_code (6 : Nat) (Option.none : Option Jvm.ClassFile.FieldType)).before args0 about1 = true := code_word (m := ⟨7, 3⟩) (meth := k7m3) (c := k7c3) (by decide +kernel) rfl rfl rfl (by decide +kernel)
set_option maxRecDepth 65536 in
theorem w_c5 : (Jvm.Cond.code ({ cls := "java/lang/Object", name := "<init>", desc := "()V" } : Jvm.MethodName) object_method_1_code (1 : Nat) (Option.none : Option Jvm.ClassFile.FieldType)).before args0 about1 = true := code_word (m := ⟨0, 0⟩) (meth := k0m0) (c := k0c0) (by decide +kernel) rfl rfl rfl (by decide +kernel)
set_option maxRecDepth 65536 in
theorem w_c6 : (Jvm.Cond.code ({ cls := "java/lang/StringUTF16", name := "compress", desc := "([CII)[B" } : Jvm.MethodName) jdk_52_method_16_code (6 : Nat) (Option.some (Jvm.ClassFile.FieldType.array Jvm.ClassFile.FieldType.byte))).before args0 about1 = true := code_word (m := ⟨8, 2⟩) (meth := k8m2) (c := k8c2) (by decide +kernel) rfl rfl rfl (by decide +kernel)
set_option maxRecDepth 65536 in
theorem w_c7 : (Jvm.Cond.code ({ cls := "java/lang/StringUTF16", name := "compress", desc := "([CI[BII)I" } : Jvm.MethodName) jdk_52_method_21_code (7 : Nat) (Option.some Jvm.ClassFile.FieldType.int)).before args0 about1 = true := code_word (m := ⟨8, 3⟩) (meth := k8m3) (c := k8c3) (by decide +kernel) rfl rfl rfl (by decide +kernel)
set_option maxRecDepth 65536 in
theorem w_c8 : (Jvm.Cond.code ({ cls := "java/lang/StringUTF16", name := "coderFromArrayLen", desc := "([BI)B" } : Jvm.MethodName) jdk_52_method_15_code (2 : Nat) (Option.some Jvm.ClassFile.FieldType.byte)).before args0 about1 = true := code_word (m := ⟨8, 1⟩) (meth := k8m1) (c := k8c1) (by decide +kernel) rfl rfl rfl (by decide +kernel)
set_option maxRecDepth 65536 in
theorem w_c9 : (Jvm.Cond.code ({ cls := "com/example/scatterkeep/scatterkeep/protocol/Version", name := "of", desc := "(Ljava/lang/String;)Lcom/example/scatterkeep/scatterkeep/protocol/Version;" } : Jvm.MethodName) prog_60_method_5_code (5 : Nat) (Option.some (Jvm.ClassFile.FieldType.object "com/example/scatterkeep/scatterkeep/protocol/Version"))).before args0 about1 = true := code_word (m := ⟨10, 1⟩) (meth := k10m1) (c := k10c1) (by decide +kernel) rfl rfl rfl (by decide +kernel)
set_option maxRecDepth 65536 in
theorem w_c10 : (Jvm.Cond.code ({ cls := "com/example/scatterkeep/scatterkeep/protocol/Version", name := "values", desc := "()[Lcom/example/scatterkeep/scatterkeep/protocol/Version;" } : Jvm.MethodName) prog_60_method_1_code (0 : Nat) (Option.some (Jvm.ClassFile.FieldType.array (Jvm.ClassFile.FieldType.object "com/example/scatterkeep/scatterkeep/protocol/Version")))).before args0 about1 = true := code_word (m := ⟨10, 0⟩) (meth := k10m0) (c := k10c0) (by decide +kernel) rfl rfl rfl (by decide +kernel)
set_option maxRecDepth 65536 in
theorem w_c11 : (Jvm.Cond.code ({ cls := "java/lang/String", name := "equals", desc := "(Ljava/lang/Object;)Z" } : Jvm.MethodName) jdk_42_method_66_code (3 : Nat) (Option.some Jvm.ClassFile.FieldType.boolean)).before args0 about1 = true := code_word (m := ⟨7, 2⟩) (meth := k7m2) (c := k7c2) (by decide +kernel) rfl rfl rfl (by decide +kernel)
set_option maxRecDepth 65536 in
theorem w_c12 : (Jvm.Cond.code ({ cls := "java/lang/StringLatin1", name := "equals", desc := "([B[B)Z" } : Jvm.MethodName) jdk_43_method_13_code (3 : Nat) (Option.some Jvm.ClassFile.FieldType.boolean)).before args0 about1 = true := code_word (m := ⟨12, 1⟩) (meth := k12m1) (c := k12c1) (by decide +kernel) rfl rfl rfl (by decide +kernel)
set_option maxRecDepth 65536 in
theorem w_c13 : (Jvm.Cond.code ({ cls := "com/example/scatterkeep/scatterkeep/protocol/VersionOfPinLaw", name := "pick", desc := "(I)C" } : Jvm.MethodName) method_2_code (2 : Nat) (Option.some Jvm.ClassFile.FieldType.char)).before args0 about1 = true := code_word (m := ⟨1, 1⟩) (meth := k1m1) (c := k1c1) (by decide +kernel) rfl rfl rfl (by decide +kernel)
def codes1 : List Jvm.Cond := [Jvm.Cond.code x code maxLocals ret, Jvm.Cond.code ({ cls := "com/example/scatterkeep/scatterkeep/protocol/VersionOfPinLaw", name := "ch", desc := "(IZ)C" } : Jvm.MethodName) method_3_code (2 : Nat) (Option.some Jvm.ClassFile.FieldType.char), Jvm.Cond.code ({ cls := "com/example/scatterkeep/scatterkeep/protocol/VersionOfPinLaw", name := "str", desc := "(ICCCC)Ljava/lang/String;" } : Jvm.MethodName) method_4_code (5 : Nat) (Option.some (Jvm.ClassFile.FieldType.object "java/lang/String")), Jvm.Cond.code ({ cls := "java/lang/String", name := "<init>", desc := "([C)V" } : Jvm.MethodName) jdk_42_method_3_code (2 : Nat) (Option.none : Option Jvm.ClassFile.FieldType), Jvm.Cond.code ({ cls := "java/lang/String", name := "<init>", desc := "([CIILjava/lang/Void;)V" } : Jvm.MethodName) jdk_42_method_149_code (6 : Nat) (Option.none : Option Jvm.ClassFile.FieldType), Jvm.Cond.code ({ cls := "java/lang/Object", name := "<init>", desc := "()V" } : Jvm.MethodName) object_method_1_code (1 : Nat) (Option.none : Option Jvm.ClassFile.FieldType), Jvm.Cond.code ({ cls := "java/lang/StringUTF16", name := "compress", desc := "([CII)[B" } : Jvm.MethodName) jdk_52_method_16_code (6 : Nat) (Option.some (Jvm.ClassFile.FieldType.array Jvm.ClassFile.FieldType.byte)), Jvm.Cond.code ({ cls := "java/lang/StringUTF16", name := "compress", desc := "([CI[BII)I" } : Jvm.MethodName) jdk_52_method_21_code (7 : Nat) (Option.some Jvm.ClassFile.FieldType.int), Jvm.Cond.code ({ cls := "java/lang/StringUTF16", name := "coderFromArrayLen", desc := "([BI)B" } : Jvm.MethodName) jdk_52_method_15_code (2 : Nat) (Option.some Jvm.ClassFile.FieldType.byte), Jvm.Cond.code ({ cls := "com/example/scatterkeep/scatterkeep/protocol/Version", name := "of", desc := "(Ljava/lang/String;)Lcom/example/scatterkeep/scatterkeep/protocol/Version;" } : Jvm.MethodName) prog_60_method_5_code (5 : Nat) (Option.some (Jvm.ClassFile.FieldType.object "com/example/scatterkeep/scatterkeep/protocol/Version")), Jvm.Cond.code ({ cls := "com/example/scatterkeep/scatterkeep/protocol/Version", name := "values", desc := "()[Lcom/example/scatterkeep/scatterkeep/protocol/Version;" } : Jvm.MethodName) prog_60_method_1_code (0 : Nat) (Option.some (Jvm.ClassFile.FieldType.array (Jvm.ClassFile.FieldType.object "com/example/scatterkeep/scatterkeep/protocol/Version"))), Jvm.Cond.code ({ cls := "java/lang/String", name := "equals", desc := "(Ljava/lang/Object;)Z" } : Jvm.MethodName) jdk_42_method_66_code (3 : Nat) (Option.some Jvm.ClassFile.FieldType.boolean), Jvm.Cond.code ({ cls := "java/lang/StringLatin1", name := "equals", desc := "([B[B)Z" } : Jvm.MethodName) jdk_43_method_13_code (3 : Nat) (Option.some Jvm.ClassFile.FieldType.boolean), Jvm.Cond.code ({ cls := "com/example/scatterkeep/scatterkeep/protocol/VersionOfPinLaw", name := "pick", desc := "(I)C" } : Jvm.MethodName) method_2_code (2 : Nat) (Option.some Jvm.ClassFile.FieldType.char)]
set_option maxRecDepth 65536 in
theorem codes_eq : words1.filter isCode = codes1 := rfl
theorem w_codes : ∀ c ∈ words1.filter isCode, c.before args0 about1 = true := by
  rw [codes_eq]
  intro c hc
  simp only [codes1, List.mem_cons, List.not_mem_nil, or_false] at hc
  rcases hc with rfl | rfl | rfl | rfl | rfl | rfl | rfl | rfl | rfl | rfl | rfl | rfl | rfl | rfl
  · exact w_c0
  · exact w_c1
  · exact w_c2
  · exact w_c3
  · exact w_c4
  · exact w_c5
  · exact w_c6
  · exact w_c7
  · exact w_c8
  · exact w_c9
  · exact w_c10
  · exact w_c11
  · exact w_c12
  · exact w_c13
set_option maxRecDepth 65536 in
theorem w_t1 : (words1.take 24).all (fun c => isCode c || c.before args0 about1) = true := by decide +kernel
set_option maxRecDepth 65536 in
theorem w_t2 : ((words1.drop 24).take 24).all (fun c => isCode c || c.before args0 about1) = true := by decide +kernel
set_option maxRecDepth 65536 in
theorem w_t3 : (((words1.drop 24).drop 24).take 24).all (fun c => isCode c || c.before args0 about1) = true := by decide +kernel
set_option maxRecDepth 65536 in
theorem w_t4 : (((words1.drop 24).drop 24).drop 24).all (fun c => isCode c || c.before args0 about1) = true := by decide +kernel
theorem w_tables : (allAtoms (Jvm.Cond.code x code maxLocals ret :: tables_1)).before args0 about1 = true := by
  rw [allAtoms_all]
  show words1.all (fun c => c.before args0 about1) = true
  refine all_split ?_ w_codes
  rw [← List.take_append_drop 24 words1, List.all_append, w_t1, ← List.take_append_drop 24 (words1.drop 24), List.all_append, w_t2, ← List.take_append_drop 24 ((words1.drop 24).drop 24), List.all_append, w_t3, w_t4]
  rfl
set_option maxRecDepth 65536 in
theorem w_rest : rest_1_c.before args0 about1 = true := by decide +kernel
set_option maxRecDepth 65536 in
theorem w_case : (Jvm.Cond.and given_1 narrow_1).before args0 about1 = true := by decide +kernel
set_option maxRecDepth 65536 in
theorem w_consts : constsHeld consts_1 about1 := Jvm.Lit.constsHeldB_iff.mp (by decide +kernel)
theorem w_applies : (headSpec (Jvm.Cond.code x code maxLocals ret :: tables_1) room_1).applies x e0.platform about1 = true :=
  (Spec.applies_iff w_frames).mpr ⟨w_running, w_runnable, w_alone, w_named, w_hears, w_ripe, w_room, w_tables⟩
theorem atStart : AtStart classFile x code maxLocals ret World_1 tables_1 room_1 Calls_1 rest_1 Pre_1 launch0 p0 e0 about1 theMethod args0 below0 :=
  ⟨lists_1, trivial, launch0.admits_env _ _ _, launch0.least_env, fairChoices_fair.cas, fairChoices_fair.clock, w_frames, w_args, w_heap, w_applies, ⟨w_consts, trivial⟩, w_rest, w_case⟩
end start1
theorem witness_1 : WitnessClaimed_1 := ⟨start1.p0, start1.e0, start1.about1, start1.theMethod, start1.args0, start1.below0, start1.atStart⟩
end Jvm.Pilot.@@N@@
